import PyProof.Rows.All
import Wide.All
import OpenK.AllK
import Wide.FinOn
import Lean
import PySem.Challenge.RW_sn0001_01
open PySem PySem.W PyProof.Rows PyProof.V PySem.Calls PySem.Spec
set_option Elab.async false
set_option maxRecDepth 100000
set_option maxHeartbeats 8000000
set_option rowWalk.seconds 0
set_option compiler.extract_closed false
namespace Mine
/-- what a dict holds, in its order -/
abbrev Cfg := List (Str × PyData)
def cD (c : Cfg) : List (PyData × PyData) := c.map fun p => (PyData.str p.1, p.2)
def getC (c : Cfg) (k : Str) : Option PyData := (c.find? fun p => decide (p.1 = k)).map (·.2)
def hasC (c : Cfg) (k : Str) : Bool := c.any fun p => decide (p.1 = k)
def putC (c : Cfg) (k : Str) (v : PyData) : Cfg := if hasC c k then c.map (fun p => if p.1 = k then (p.1, v) else p) else c ++ [(k, v)]
def delC (c : Cfg) (k : Str) : Cfg := c.filter fun p => !decide (p.1 = k)
def IsCfg (prog : Program) (w : World) (o : Obj) (c : Cfg) : Prop := (∃ kvs, o.IsDictOf (PySem.strKind prog w) kvs ∧ FlatPairs PyData.str kvs (cD c)) ∧ ∀ p ∈ c, SeqAt.shaped p.2 = true
theorem cD_length (c : Cfg) : (cD c).length = c.length := by unfold cD; rw [List.length_map]
theorem cD_any (c : Cfg) (k : Str) : ((cD c).any fun p => PySem.Spec.same p.1 (PyData.str k)) = hasC c k := by
  induction c with
  | nil => rfl
  | cons p c ih =>
    show (PySem.Spec.same (PyData.str p.1) (PyData.str k) || (cD c).any fun p => PySem.Spec.same p.1 (PyData.str k)) = (decide (p.1 = k) || hasC c k)
    rw [ih, PyProof.V.same_str]
theorem cD_put (c : Cfg) (k : Str) (v : PyData) : putD (PyData.str k) v (cD c) = cD (putC c k v) := by
  unfold putD putC
  rw [cD_any]
  by_cases hc : hasC c k = true
  · rw [if_pos hc, if_pos hc]
    unfold cD
    rw [List.map_map, List.map_map]
    refine List.map_congr_left fun p _ => ?_
    show (if PySem.Spec.same (PyData.str p.1) (PyData.str k) = true then (PyData.str p.1, v) else (PyData.str p.1, p.2)) = (fun p : Str × PyData => (PyData.str p.1, p.2)) (if p.1 = k then (p.1, v) else p)
    rw [PyProof.V.same_str]
    by_cases hp : p.1 = k
    · rw [if_pos (decide_eq_true hp), if_pos hp]
    · rw [if_neg (by simp [hp]), if_neg hp]
  · rw [if_neg hc, if_neg hc]
    unfold cD
    rw [List.map_append]
    rfl
theorem cD_lookup (k : Str) : ∀ c : Cfg, PySem.Spec.lookup (PyData.str k) (cD c) = getC c k
  | [] => rfl
  | (i, v) :: c => by
    show (if PySem.Spec.same (PyData.str i) (PyData.str k) = true then some v else PySem.Spec.lookup (PyData.str k) (cD c)) = _
    rw [PyProof.V.same_str, cD_lookup k c]
    unfold getC
    rw [List.find?_cons]
    by_cases h : i = k
    · simp [h]
    · simp [h]
theorem cD_del (c : Cfg) (k : Str) : delD (PyData.str k) (cD c) = cD (delC c k) := by
  unfold delD cD delC
  rw [List.filter_map]
  refine congrArg _ (List.filter_congr fun p _ => ?_)
  show (!PySem.Spec.same (PyData.str p.1) (PyData.str k)) = _
  rw [PyProof.V.same_str]
theorem getC_isSome (c : Cfg) (k : Str) : (getC c k).isSome = hasC c k := by
  unfold getC hasC
  rw [Option.isSome_map, List.isSome_find?]
theorem putC_length (c : Cfg) (k : Str) (v : PyData) : (putC c k v).length ≤ c.length + 1 := by
  unfold putC
  split
  · rw [List.length_map]; omega
  · rw [List.length_append]; simp
theorem getC_shaped {c : Cfg} {k : Str} {dd : PyData} (h : ∀ p ∈ c, SeqAt.shaped p.2 = true) (hd : SeqAt.shaped dd = true) : SeqAt.shaped ((getC c k).getD dd) = true := by
  unfold getC
  cases e : c.find? fun p => decide (p.1 = k) with
  | none => exact hd
  | some p => exact h p (List.mem_of_find?_eq_some e)
theorem putC_shaped {c : Cfg} {k : Str} {v : PyData} (h : ∀ p ∈ c, SeqAt.shaped p.2 = true) (hv : SeqAt.shaped v = true) : ∀ p ∈ putC c k v, SeqAt.shaped p.2 = true := by
  intro p hp
  unfold putC at hp
  split at hp
  · obtain ⟨q, hq, rfl⟩ := List.mem_map.mp hp
    split
    · exact hv
    · exact h q hq
  · rcases List.mem_append.mp hp with hp | hp
    · exact h p hp
    · rw [List.mem_singleton.mp hp]; exact hv
section
variable {prog : Program} {w : World} {A : Around} {E : Value → Shared → Prop} {s : Shared} {h₀ : Heap} {L d : Addr} {m : Str → Option Value} {news : List (Addr × Obj)} {g : Obj → List (Addr × Obj)} {o : Obj} {c : Cfg} {k : Str} {t : Tok} {v dflt : Value} {dv dd : PyData}
theorem cfg_method {pl : Sem Bool} {Q : Value × List Value → Shared → Prop} (N : News h₀ L s.heap news) (hm : (d, o) ∈ news) (hd : IsCfg prog w o c) (h : Q (.builtin "dict.get", [.ref d]) s) :
    wpAny (model prog w) A (getMethod (.ref d) "get" pl) Q E s :=
  let ⟨⟨_, a, _⟩, _⟩ := hd; kdg_method N hm a h
theorem cfg_get {Q : Value → Shared → Prop} (N : News h₀ L s.heap news) (hm : (d, o) ∈ news) (hd : IsCfg prog w o c) (lo : (d == sysModules) = false) (hdf : Flat dflt dd) (hsd : SeqAt.shaped dd = true)
    (h : ∀ u, Flat u ((getC c k).getD dd) → SeqAt.shaped ((getC c k).getD dd) = true → Q u { s with toks := s.toks + 1 }) : wpAny (model prog w) A (call (.builtin "dict.get") [.ref d, .str k t, dflt]) Q E s := by
  obtain ⟨⟨kvs, a, f⟩, hsh⟩ := hd
  refine kdg_get2 N hm a lo (strKind_is _ _ _ _) _ rfl (h _ ?_ ?_)
  · rw [← cD_lookup]
    exact f.getD PyProof.V.same_str k hdf
  · exact getC_shaped hsh hsd
theorem cfg_notin {Q : Value → Shared → Prop} (N : News h₀ L s.heap news) (hm : (d, o) ∈ news) (hd : IsCfg prog w o c) (lo : (d == sysModules) = false)
    (h : Q (.bool (!hasC c k)) { s with toks := s.toks + 1 }) : wpAny (model prog w) A (compareOp .NotIn (.str k t) (.ref d)) Q E s := by
  obtain ⟨⟨kvs, a, f⟩, hsh⟩ := hd
  refine kdg_notin N hm a lo (strKind_is _ _ _ _) _ ?_ h
  rw [f.isSome PyProof.V.same_str, cD_lookup, getC_isSome]
theorem cfg_set {Q : Unit → Shared → Prop} (F : Fr h₀ L s.heap m) (N : News h₀ L s.heap news) (U : UpdF d o news g) (hd : IsCfg prog w o c) (hv : Flat v dv) (hs : SeqAt.shaped dv = true) (hc : c.length ≤ 16777216)
    (h : ∀ h' o', Fr h₀ L h' m → News h₀ L h' (g o') → IsCfg prog w o' (putC c k dv) → Q () { s with heap := h', toks := s.toks + 1 }) :
    wpAny (model prog w) A (setItem (.ref d) (.str k t) v) Q E s := by
  obtain ⟨⟨kvs, a, f⟩, hsh⟩ := hd
  refine setItem_K PyProof.V.same_str (strKind_is _ _ _ _) hv F N U a f (fun h' o' F' N' a' f' => h h' o' F' N' ⟨⟨_, a', ?_⟩, putC_shaped hsh hs⟩) (by rw [cD_length, sizeLine_eq]; exact hc)
  rw [← cD_put]
  exact f'
theorem cfg_del {Q : Unit → Shared → Prop} (F : Fr h₀ L s.heap m) (N : News h₀ L s.heap news) (U : UpdF d o news g) (hd : IsCfg prog w o c) (hk : hasC c k = true) (hc : c.length ≤ 16777216)
    (h : ∀ h' o', Fr h₀ L h' m → News h₀ L h' (g o') → IsCfg prog w o' (delC c k) → Q () { s with heap := h', toks := s.toks + 1 }) :
    wpAny (model prog w) A (delItem (.ref d) (.str k t)) Q E s := by
  obtain ⟨⟨kvs, a, f⟩, hsh⟩ := hd
  refine kt_del_K PyProof.V.same_str (strKind_is _ _ _ _) F N U a f (by rw [cD_lookup, getC_isSome]; exact hk) (fun h' o' F' N' a' f' => h h' o' F' N' ⟨⟨_, a', ?_⟩, fun p hp => hsh p (List.mem_filter.mp hp).1⟩) (by rw [cD_length, sizeLine_eq]; exact hc)
  rw [← cD_del]
  exact f'
theorem cfg_list {Q : Value → Shared → Prop} (hh : A.handled = none) (F : Fr h₀ L s.heap m) (N : News h₀ L s.heap news) (hm : (d, o) ∈ news) (hd : IsCfg prog w o c) (lo : (d == sysModules) = false) (hc : c.length ≤ 16777216)
    (h : ∀ (B : Addr) (n : Nat) h' tk vs, Fr h₀ L h' m → News h₀ L h' ((B, listOf vs.toArray n) :: news) → (∀ q ∈ news, q.1 < B) → StrsAre vs (c.map (·.1)) → Q (.ref B) { s with heap := h', toks := tk }) :
    wpAny (model prog w) A (call (.type "list") [.ref d]) Q E s := by
  obtain ⟨⟨kvs, a, hf⟩, _⟩ := hd
  have hD : s.heap.DictOf (PySem.strKind prog w) d kvs := kda_dict N hm a
  obtain ⟨ep, hat⟩ := hD.dictAt
  have hlen : kvs.length = c.length := by rw [← hf.length, cD_length]
  refine kdl_N (kdl_dict (knd := PySem.strKind prog w) (kvs := kvs) (ep := ep) lo) hh F N hat (kdl_size (by rw [hlen]; exact hc)) fun B n h' tk vs F' N' l1 hl hv => ?_
  refine h B n h' tk vs F' N' l1 (kdy_strs (by rw [hl, hlen, List.length_map]) fun j v hvj => ?_)
  obtain ⟨k, x, hx, hk⟩ := hv j v hvj
  obtain ⟨dv, hd, _⟩ := hf.at hx
  have hd' : (c[j]?).map (fun p => (PyData.str p.1, p.2)) = some (PyData.str k, dv) := by rw [← List.getElem?_map]; exact hd
  cases hcj : c[j]? with
  | none => rw [hcj] at hd'; cases hd'
  | some p =>
    rw [hcj] at hd'
    have e1 : PyData.str p.1 = PyData.str k := congrArg Prod.fst (Option.some.inj hd')
    injection e1 with e1
    obtain ⟨t, rfl⟩ := Value.isStrOf_shape hk
    exact ⟨p.1, by rw [List.getElem?_map, hcj]; rfl, t, by rw [e1]⟩
/-- != of two flat values -/
theorem flat_ne {u : Value} {du : PyData} {Q : Value → Shared → Prop} (f : Flat u du) (g : Flat v dv) (hu : SeqAt.shaped du = true) (hv : SeqAt.shaped dv = true) (hr : A.units + 64 < cLine) (h : Q (.bool (!PyData.eqv du dv)) s) :
    wpAny (model prog w) A (compareOp .NotEq u v) Q E s := SeqAt.compareNe_shaped (f _) (g _) hu hv hr h
end
theorem News.sub {h₀ h : Heap} {L : Addr} {news news' : List (Addr × Obj)} (N : News h₀ L h news') (hs : ∀ p ∈ news, p ∈ news') : News h₀ L h news := fun p hp => N p (hs p hp)
theorem News.drop1 {h₀ h : Heap} {L : Addr} {a : Addr × Obj} {news : List (Addr × Obj)} (N : News h₀ L h (a :: news)) : News h₀ L h news := News.sub N fun _ h => .tail _ h
theorem News.drop2 {h₀ h : Heap} {L : Addr} {a b : Addr × Obj} {news : List (Addr × Obj)} (N : News h₀ L h (a :: b :: news)) : News h₀ L h news := News.drop1 (News.drop1 N)
theorem News.drop3 {h₀ h : Heap} {L : Addr} {a b c : Addr × Obj} {news : List (Addr × Obj)} (N : News h₀ L h (a :: b :: c :: news)) : News h₀ L h news := News.drop1 (News.drop2 N)
theorem News.drop4 {h₀ h : Heap} {L : Addr} {a b c d : Addr × Obj} {news : List (Addr × Obj)} (N : News h₀ L h (a :: b :: c :: d :: news)) : News h₀ L h news := News.drop2 (News.drop2 N)
theorem News.drop5 {h₀ h : Heap} {L : Addr} {a b c d e : Addr × Obj} {news : List (Addr × Obj)} (N : News h₀ L h (a :: b :: c :: d :: e :: news)) : News h₀ L h news := News.drop2 (News.drop3 N)
theorem News.drop6 {h₀ h : Heap} {L : Addr} {a b c d e f : Addr × Obj} {news : List (Addr × Obj)} (N : News h₀ L h (a :: b :: c :: d :: e :: f :: news)) : News h₀ L h news := News.drop3 (News.drop3 N)
theorem mem_first {α : Type} {x : α} (pre post : List α) : ∀ p ∈ x :: (pre ++ post), p ∈ pre ++ x :: post := fun p hp => by
  simp only [List.mem_cons, List.mem_append] at hp ⊢
  rcases hp with h | h | h
  · exact .inr (.inl h)
  · exact .inl h
  · exact .inr (.inr h)
theorem mem_back {α : Type} {x : α} (pre post : List α) : ∀ p ∈ pre ++ x :: post, p ∈ x :: (pre ++ post) := fun p hp => by
  simp only [List.mem_cons, List.mem_append] at hp ⊢
  rcases hp with h | h | h
  · exact .inr (.inl h)
  · exact .inl h
  · exact .inr (.inr h)
theorem ne_both {d : Addr} {pre post : List (Addr × Obj)} (a : ∀ p ∈ pre, p.1 ≠ d) (b : ∀ p ∈ post, p.1 ≠ d) : ∀ p ∈ pre ++ post, p.1 ≠ d := fun p hp => (List.mem_append.mp hp).elim (a p) (b p)
/-- a loop's state: the ledger, the names that it carries, what holds of it -/
def LoopJ {σ : Type} (Led : σ → List (Addr × Obj)) (ps : σ → List (Str × Value)) (x : Str) (stored : List Str) (m₀ : Str → Option Value) (P : σ → Prop) (m' : Str → Option Value) (nx : List (Addr × Obj)) : Prop :=
  ∃ c, nx = Led c ∧ (∀ p ∈ ps c, m' p.1 = some p.2) ∧ (∀ z, z ≠ x → (∀ p ∈ ps c, z ≠ p.1) → stored.contains z = false → m' z = m₀ z) ∧ P c
section
variable {prog : Program} {w : World} {A : Around} {E : Value → Shared → Prop} {s : Shared} {env : Env} {h₀ : Heap} {x : Str} {body : List Stmt} {Q : Flow → Shared → Prop}
theorem loopL {σ : Type} {l : Addr} {vs : List Value} {nn : Nat} {m₀ : Str → Option Value} (Led : σ → List (Addr × Obj)) (ps : σ → List (Str × Value)) (stored : List Str) (P : Nat → σ → Prop) (c₀ : σ)
    (hh : A.handled = none) (hl : ∀ c, (l, listOf vs.toArray nn) ∈ Led c) (F : Fr h₀ env.locals s.heap m₀) (N : News h₀ env.locals s.heap (Led c₀)) (hk : ∀ p ∈ ps c₀, m₀ p.1 = some p.2) (hp : P 0 c₀)
    (turn : ∀ i v c (u : Str → Option Value) h tk own, vs[i]? = some v → OwnOff own ((Led c).map (·.1)) → P i c →
      Fr h₀ env.locals h (fun y => if y = x then some v else kstB (fun z => if stored.contains z then u z else m₀ z) (ps c) y) → News h₀ env.locals h (Led c ++ own) →
      wpAny (model prog w) A (execs body env) (InvPostG h₀ env.locals (LoopJ Led ps x stored m₀ (P (i + 1))) own { s with heap := h, toks := tk } Q) E { s with heap := h, toks := tk })
    (done : ∀ c (u : Str → Option Value) h tk, P vs.length c → Fr h₀ env.locals h (fun y => if y = x then u y else kstB (fun z => if stored.contains z then u z else m₀ z) (ps c) y) → News h₀ env.locals h (Led c) → Q .next { s with heap := h, toks := tk }) :
    wpAny (model prog w) A (pyIter (.ref l)) (fun it s₂ => LoopAtV prog w A h₀ env x body Q E it s₂) E s := by
  refine kdl_iter (fun i m nx => LoopJ Led ps x stored m₀ (P i) m nx) hh (hl c₀) F N ⟨c₀, rfl, hk, fun _ _ _ _ => rfl, hp⟩ ?_ ?_
  · rintro i v m₁ nx h tk own hv hoff _ ⟨c, rfl, h1, h2, hp'⟩ F₁ N₁
    refine wpAny_mono (turn i v c m₁ h tk own hv hoff hp' (kst_fr h1 h2 F₁) N₁) (fun f s₂ p => ?_) fun _ _ x => x
    have up : InvEndG h₀ env.locals (LoopJ Led ps x stored m₀ (P (i + 1))) own { s with heap := h, toks := tk } s₂ →
        InvEndG h₀ env.locals (fun m' nx => (l, listOf vs.toArray nn) ∈ nx ∧ LoopJ Led ps x stored m₀ (P (i + 1)) m' nx) own { s with heap := h, toks := tk } s₂ := by
      rintro ⟨h', tk', m', news', nx', e', F', N', hn', ho', ha, hS⟩
      refine ⟨h', tk', m', news', nx', e', F', N', hn', ho', ha, ?_, hS⟩
      obtain ⟨c', rfl, _⟩ := hS
      exact hl c'
    cases f with
    | ret v => exact p
    | brk => exact p
    | next => exact up p
    | cont => exact up p
  · rintro m₁ nx h tk ⟨c, rfl, h1, h2, hp'⟩ F₁ N₁
    exact done c m₁ h tk hp' (kst_frOut h1 h2 F₁) N₁
theorem loop_end {σ : Type} {Led : σ → List (Addr × Obj)} {ps : σ → List (Str × Value)} {stored : List Str} {m₀ : Str → Option Value} {P : σ → Prop} (c : σ) {L : Addr} {m' : Str → Option Value} {own news' : List (Addr × Obj)} {s₁ : Shared} {h' : Heap} {tk : Nat}
    (F : Fr h₀ L h' m') (N : News h₀ L h' news') (hn : ∀ p ∈ Led c, p ∈ news') (ho : ∀ p ∈ own, p ∈ news') (ha : OwnOff own ((Led c).map (·.1)))
    (hk : ∀ p ∈ ps c, m' p.1 = some p.2) (hr : ∀ z, z ≠ x → (∀ p ∈ ps c, z ≠ p.1) → stored.contains z = false → m' z = m₀ z) (hp : P c) :
    InvEndG h₀ L (LoopJ Led ps x stored m₀ P) own s₁ { s₁ with heap := h', toks := tk } := InvEndG.intro F N ⟨c, rfl, hk, hr, hp⟩ ha hn ho
end
theorem loop_endA {σ : Type} {h₀ : Heap} {x : Str} {Led : σ → List (Addr × Obj)} {ps : σ → List (Str × Value)} {stored : List Str} {m₀ : Str → Option Value} {P : σ → Prop} (c : σ) {L : Addr} {m' : Str → Option Value} {own : List (Addr × Obj)} {s₁ : Shared} {h' : Heap} {tk : Nat}
    (F : Fr h₀ L h' m') (N : News h₀ L h' (Led c ++ own)) (ha : OwnOff own ((Led c).map (·.1)))
    (hk : ∀ p ∈ ps c, m' p.1 = some p.2) (hr : ∀ z, z ≠ x → (∀ p ∈ ps c, z ≠ p.1) → stored.contains z = false → m' z = m₀ z) (hp : P c) :
    InvEndG h₀ L (LoopJ Led ps x stored m₀ P) own s₁ { s₁ with heap := h', toks := tk } := loop_end c F N (fun _ h => List.mem_append_left _ h) (fun _ h => List.mem_append_right _ h) ha hk hr hp
theorem allLt_lt {d : Addr} : ∀ {l : List (Addr × Obj)}, AllLt d l → ∀ p ∈ l, p.1 < d
  | [], _, _, h => nomatch h
  | q :: l, a, p, h => (List.mem_cons.mp h).elim (fun e => by rw [e]; exact a.1) (allLt_lt a.2 p)
theorem allLt_ne {d e : Addr} {l : List (Addr × Obj)} (a : AllLt d l) (h : d ≤ e) : ∀ p ∈ l, p.1 ≠ e := fun p hp => Nat.ne_of_lt (Nat.lt_of_lt_of_le (allLt_lt a p hp) h)
theorem off_cons {a d : Addr} {o : Obj} {l : List (Addr × Obj)} (h : a ≠ d) (r : ∀ p ∈ l, p.1 ≠ d) : ∀ p ∈ (a, o) :: l, p.1 ≠ d := fun p hp => (List.mem_cons.mp hp).elim (fun e => by rw [e]; exact h) (r p)
theorem IntsAre.at' : ∀ {vs : List Value} {ns : List Int} {i : Nat} {v : Value}, IntsAre vs ns → vs[i]? = some v → ∃ y t, v = .int y t ∧ ns[i]? = some y
  | _, _, 0, v, .cons y t _, h => ⟨y, t, (Option.some.inj h).symm, rfl⟩
  | _, _, i + 1, v, .cons y t r, h => IntsAre.at' (i := i) r h
  | _, _, _, _, .nil, h => by simp at h
theorem last_ne {r : List Int} {k : Nat} (h : ¬ r = (List.replicate k (r.drop (r.length - 1))).flatten) : 0 < (r.drop (r.length - 1)).length := by
  rw [List.length_drop]
  cases r with
  | nil => exact absurd (by simp) h
  | cons x r => simp only [List.length_cons]; omega
theorem last_ne2 {x y : List Int} (h : 0 < x.length + y.length) : 0 < ((x ++ y).drop ((x ++ y).length - 1)).length := by
  rw [List.length_drop, List.length_append]; omega
section
variable {prog : Program} {w : World} {A : Around} {E : Value → Shared → Prop} {s : Shared}
theorem item_ints {h₀ : Heap} {L l : Addr} {news : List (Addr × Obj)} {vs : List Value} {ns : List Int} {n : Nat} {i : Int} {u : Tok} {value slice : PySem.Expr} {Q : Value → Shared → Prop}
    (N : News h₀ L s.heap news) (hm : (l, listOf vs.toArray n) ∈ news) (hi : IntsAre vs ns) (h0 : 0 ≤ i) (hk : i.toNat < ns.length) (hb : i < 2 ^ 63)
    (h : ∀ t, Q (.int (ns.getD i.toNat 0) t) s)
    (hs : subscripted slice false (.ref l) (.int i u) = operate [.ref l, .int i u] (getItem (.ref l) (.int i u)) := by with_unfolding_all rfl) : wpAny (model prog w) A (subscriptTail value slice (.ref l) (.int i u)) Q E s := by
  have hl : s.heap.IsList l vs.toArray := ⟨_, (N _ hm).1, rfl, n, rfl⟩
  have hk' : i.toNat < vs.length := by rw [IntsAre.length hi]; exact hk
  have hv : vs[i.toNat]? = some vs[i.toNat] := List.getElem?_eq_getElem hk'
  obtain ⟨y, t, hy, hn⟩ := IntsAre.at' hi hv
  have e : ns.getD i.toNat 0 = y := by rw [List.getD_eq_getElem?_getD, hn]; rfl
  refine tail_any hl.typeIs slot_list_getitem.lookup (wpAny_getItem_list hl h0 hb (x := vs[i.toNat]) (by simpa using hv) ?_) hs
  rw [hy, ← e]
  exact h t
end
def HasAll (m' : Str → Option Value) (l : List (Str × Value)) : Prop := ∀ p ∈ l, m' p.1 = some p.2
theorem hasNil {m' : Str → Option Value} : HasAll m' [] := fun _ h => nomatch h
theorem hasCons {m' : Str → Option Value} {k : Str} {v : Value} {l : List (Str × Value)} (h : m' k = some v) (r : HasAll m' l) : HasAll m' ((k, v) :: l) := fun p hp => (List.mem_cons.mp hp).elim (fun e => by rw [e]; exact h) (r p)
theorem loop_endX {σ : Type} {h₀ : Heap} {x : Str} {Led : σ → List (Addr × Obj)} {ps : σ → List (Str × Value)} {stored : List Str} {m₀ : Str → Option Value} {P : σ → Prop} {L : Addr} {m' : Str → Option Value} {own : List (Addr × Obj)} {s₁ : Shared} {h' : Heap} {tk : Nat}
    (F : Fr h₀ L h' m') (h : ∃ c, P c ∧ News h₀ L h' (Led c ++ own) ∧ OwnOff own ((Led c).map (·.1)) ∧ HasAll m' (ps c) ∧ ∀ z, z ≠ x → (∀ p ∈ ps c, z ≠ p.1) → stored.contains z = false → m' z = m₀ z) :
    InvEndG h₀ L (LoopJ Led ps x stored m₀ P) own s₁ { s₁ with heap := h', toks := tk } :=
  let ⟨c, hp, N, ha, hk, hr⟩ := h; loop_endA c F N ha hk hr hp
section
variable {prog : Program} {w : World} {A : Around} {E : Value → Shared → Prop} {s : Shared} {env : Env} {h₀ : Heap} {x : Str} {body : List Stmt} {Q : Flow → Shared → Prop}
/-- a loop over a made sequence at l, by an iterator at I -/
theorem loopSrc {σ : Type} {I : Addr} {fp : List Addr} {n : Nat} {Pv : Nat → Value → Prop} {St : Nat → Heap → Prop} {m₀ : Str → Option Value} (Led : σ → List (Addr × Obj)) (ps : σ → List (Str × Value)) (stored : List Str) (P : Nat → σ → Prop) (c₀ : σ)
    (W : Walks prog w A I fp [I] n Pv St) (hfp : ∀ b ∈ fp, b = I ∨ ∃ src, ∀ c, (b, src) ∈ Led c) (hIfp : I ∈ fp) (hSt : ∀ i h, St i h → ∃ o, h.get? I = some o) (F : Fr h₀ env.locals s.heap m₀) (N : News h₀ env.locals s.heap (Led c₀))
    (hI0 : h₀.get? I = none) (hIL : I ≠ env.locals) (hIN : ∀ p ∈ Led c₀, p.1 ≠ I) (hst : St 0 s.heap) (hk : ∀ p ∈ ps c₀, m₀ p.1 = some p.2) (hp : P 0 c₀)
    (turn : ∀ i v c (u : Str → Option Value) h tk own, i < n → Pv i v → OwnOff own ((Led c).map (·.1)) → P i c →
      Fr h₀ env.locals h (fun y => if y = x then some v else kstB (fun z => if stored.contains z then u z else m₀ z) (ps c) y) → News h₀ env.locals h (Led c ++ own) →
      wpAny (model prog w) A (execs body env) (InvPostG h₀ env.locals (LoopJ Led ps x stored m₀ (P (i + 1))) own { s with heap := h, toks := tk } Q) E { s with heap := h, toks := tk })
    (done : ∀ c (u : Str → Option Value) h tk, P n c → Fr h₀ env.locals h (fun y => if y = x then u y else kstB (fun z => if stored.contains z then u z else m₀ z) (ps c) y) → News h₀ env.locals h (Led c) → Q .next { s with heap := h, toks := tk }) :
    LoopAtV prog w A h₀ env x body Q E (.ref I) s := by
  refine ⟨I, fp, [I], n, Pv, St, m₀, Led c₀, fun i m nx => LoopJ Led ps x stored m₀ (P i) m nx, rfl, W, ?_, ?_, ?_, hst, F, N, ⟨c₀, rfl, hk, fun _ _ _ _ => rfl, hp⟩, ?_, ?_⟩
  · intro hm
    rcases hfp _ hm with e | ⟨src, e⟩
    · exact hIL e.symm
    · exact (N _ (e c₀)).2.1 rfl
  · intro b hb
    rw [List.mem_singleton.mp hb]; exact hI0
  · intro p hp' hm
    exact hIN p hp' (List.mem_singleton.mp hm)
  · rintro i v m₁ nx s₁ own ⟨h, tk, rfl⟩ hin hv ⟨c, rfl, k1, k2, hc⟩ hoff hown hget hall hst₁ F₁ N₁
    have memI : ∃ o, (I, o) ∈ own.filter fun p => decide (p.1 = I) := by
      obtain ⟨o, ho⟩ := hSt _ _ hst₁
      exact ⟨o, List.mem_filter.mpr ⟨hall I hIfp hI0 o ho, by simp⟩⟩
    have sep : OwnOff (own.filter fun p => decide (p.1 = I)) ((Led c).map (·.1)) := by
      intro p hp' b hb e
      obtain ⟨q, hq, rfl⟩ := List.mem_map.mp hb
      have e1 : p.1 = I := of_decide_eq_true (List.mem_filter.mp hp').2
      exact hoff q hq (List.mem_singleton.mpr (e ▸ e1))
    have N₂ : News h₀ env.locals h (Led c ++ own.filter fun p => decide (p.1 = I)) := News.sub N₁ fun p hp' => by
      rcases List.mem_append.mp hp' with hp' | hp'
      · exact List.mem_append_right _ hp'
      · exact List.mem_append_left _ (List.mem_filter.mp hp').1
    refine wpAny_mono (turn i v c m₁ h tk _ hin hv sep hc (kst_fr k1 k2 F₁) N₂) (fun f s₂ post => ?_) fun _ _ e => e
    have fin : InvEndG h₀ env.locals (LoopJ Led ps x stored m₀ (P (i + 1))) (own.filter fun p => decide (p.1 = I)) { s with heap := h, toks := tk } s₂ →
        LoopStepU h₀ env.locals [I] own (LoopJ Led ps x stored m₀ (P (i + 1))) { s with heap := h, toks := tk } .next s₂ := by
      rintro ⟨h', tk', m', news', nx, rfl, F', N', hn, ho, ha, hJ⟩
      refine LoopStepU.intro F' (fun p hp' => ?_) (fun p hp' hm => ?_) hJ
      · rcases List.mem_append.mp hp' with hp' | hp'
        · by_cases e : p.1 = I
          · exact N' p (ho p (List.mem_filter.mpr ⟨hp', by simp [e]⟩))
          · rcases hfp _ (hown p hp') with e2 | ⟨src, e2⟩
            · exact absurd e2 e
            · have g1 := hget p hp'
              have g2 := (N₂ _ (List.mem_append_left _ (e2 c))).1
              have e3 : p = (p.1, src) := Prod.ext rfl (Option.some.inj (g1.symm.trans g2))
              obtain ⟨c', rfl, _⟩ := hJ
              rw [e3]
              exact N' _ (hn _ (e2 c'))
        · exact N' p (hn p hp')
      · obtain ⟨o, hmo⟩ := memI
        exact ha _ hmo p.1 (List.mem_map_of_mem hp') (List.mem_singleton.mp hm).symm
    cases f with
    | ret v => exact .ret post
    | brk => exact .brk post
    | next => exact .next (fin post)
    | cont => exact .cont (fin post)
  · rintro h' tk m' news' F' N' _ ⟨c, rfl, k1, k2, hc⟩
    exact done c m' h' tk hc (kst_frOut k1 k2 F') N'
/-- a loop over a made tuple -/
theorem loopT {σ : Type} {l : Addr} {vs : List Value} {nn : Nat} {m₀ : Str → Option Value} (Led : σ → List (Addr × Obj)) (ps : σ → List (Str × Value)) (stored : List Str) (P : Nat → σ → Prop) (c₀ : σ)
    (hh : A.handled = none) (hl : ∀ c, (l, ({ cls := .type "tuple", data := .seq vs.toArray nn } : Obj)) ∈ Led c) (F : Fr h₀ env.locals s.heap m₀) (N : News h₀ env.locals s.heap (Led c₀)) (hk : ∀ p ∈ ps c₀, m₀ p.1 = some p.2) (hp : P 0 c₀)
    (turn : ∀ i v c (u : Str → Option Value) h tk own, vs[i]? = some v → OwnOff own ((Led c).map (·.1)) → P i c →
      Fr h₀ env.locals h (fun y => if y = x then some v else kstB (fun z => if stored.contains z then u z else m₀ z) (ps c) y) → News h₀ env.locals h (Led c ++ own) →
      wpAny (model prog w) A (execs body env) (InvPostG h₀ env.locals (LoopJ Led ps x stored m₀ (P (i + 1))) own { s with heap := h, toks := tk } Q) E { s with heap := h, toks := tk })
    (done : ∀ c (u : Str → Option Value) h tk, P vs.length c → Fr h₀ env.locals h (fun y => if y = x then u y else kstB (fun z => if stored.contains z then u z else m₀ z) (ps c) y) → News h₀ env.locals h (Led c) → Q .next { s with heap := h, toks := tk }) :
    wpAny (model prog w) A (pyIter (.ref l)) (fun it s₂ => LoopAtV prog w A h₀ env x body Q E it s₂) E s := by
  have ho := (N _ (hl c₀)).1
  have ht : s.heap.IsTuple l vs.toArray := ⟨_, ho, rfl, nn, rfl⟩
  have hne : l ≠ s.heap.objs.size := Nat.ne_of_lt (Heap.lt_size ho)
  refine wpAny_pyIter_tuple ht ?_
  refine loopSrc (s := { s with heap := s.heap.push _ }) Led ps stored P c₀ (Walks.tuple (prog := prog) (w := w) hh s.heap.objs.size l hne vs.toArray) (fun b hb => (List.mem_cons.mp hb).imp id fun e => ⟨{ cls := .type "tuple", data := .seq vs.toArray nn }, by obtain rfl := List.mem_singleton.mp e; exact hl⟩) (.head _) (fun i h st => let ⟨⟨o, ho, _⟩, _⟩ := st; ⟨o, ho⟩) (F.push _)
    (fun p hp => ⟨Heap.get?_push_of_some _ (N p hp).1, (N p hp).2⟩) (next_is_new F) (fun e => absurd F.ns.lt (e ▸ Nat.lt_irrefl _)) (fun p hp e => absurd (Heap.lt_size (N p hp).1) (e ▸ Nat.lt_irrefl _))
    ⟨⟨_, Heap.get?_push_size _ rfl, rfl, rfl⟩, ht.push _⟩ hk hp (fun i v c u h tk own hi hv => turn i v c u h tk own (by simpa using hv)) fun c u h tk hP => done c u h tk (by simpa using hP)
theorem unrW_end {L : Addr} {its : List (Addr × Obj)} {rst : (Str → Option Value) → List (Addr × Obj) → Prop} {s₁ : Shared} {h' : Heap} {tk : Nat} {m' : Str → Option Value} (news' : List (Addr × Obj)) (F : Fr h₀ L h' m') (N : News h₀ L h' (its ++ news'))
    (off : ∀ p ∈ news', ∀ q ∈ its, p.1 ≠ q.1) (r : rst m' news') : UnrEndW h₀ L s₁ its rst { s₁ with heap := h', toks := tk } := ⟨h', tk, m', news', rfl, F, N, off, r⟩
/-- a loop over a range by ones -/
theorem loopR {σ : Type} {r : Addr} {a₀ b₀ : Int} {t₀ u₀ v₀ : Tok} {n : Nat} {m₀ : Str → Option Value} (Led : σ → List (Addr × Obj)) (ps : σ → List (Str × Value)) (stored : List Str) (P : Nat → σ → Prop) (c₀ : σ)
    (hh : A.handled = none) (hr : IsRange s.heap r a₀ b₀ 1 t₀ u₀ v₀) (hsmall : Builtin.Range.small a₀ b₀ 1 = true) (hn : Builtin.Range.rangeSize a₀ b₀ 1 = (n : Int)) (F : Fr h₀ env.locals s.heap m₀) (N : News h₀ env.locals s.heap (Led c₀)) (hk : ∀ p ∈ ps c₀, m₀ p.1 = some p.2) (hp : P 0 c₀)
    (turn : ∀ i t c (u : Str → Option Value) h tk own, i < n → OwnOff own ((Led c).map (·.1)) → P i c →
      Fr h₀ env.locals h (fun y => if y = x then some (.int (a₀ + (i : Int)) t) else kstB (fun z => if stored.contains z then u z else m₀ z) (ps c) y) → News h₀ env.locals h (Led c ++ own) →
      wpAny (model prog w) A (execs body env) (InvPostG h₀ env.locals (LoopJ Led ps x stored m₀ (P (i + 1))) own { s with heap := h, toks := tk } Q) E { s with heap := h, toks := tk })
    (done : ∀ c (u : Str → Option Value) h tk, P n c → Fr h₀ env.locals h (fun y => if y = x then u y else kstB (fun z => if stored.contains z then u z else m₀ z) (ps c) y) → News h₀ env.locals h (Led c) → Q .next { s with heap := h, toks := tk }) :
    wpAny (model prog w) A (pyIter (.ref r)) (fun it s₂ => LoopAtV prog w A h₀ env x body Q E it s₂) E s := by
  refine wpAny_pyIter_range hr hsmall ?_
  refine loopSrc (s := { s with heap := s.heap.push _ }) Led ps stored P c₀ (Walks.range (prog := prog) (w := w) hh s.heap.objs.size a₀ 1 n) (fun b hb => .inl (List.mem_singleton.mp hb)) (.head _) (fun i h st => ⟨_, st⟩) (F.push _)
    (fun p hp => ⟨Heap.get?_push_of_some _ (N p hp).1, (N p hp).2⟩) (next_is_new F) (fun e => absurd F.ns.lt (e ▸ Nat.lt_irrefl _)) (fun p hp e => absurd (Heap.lt_size (N p hp).1) (e ▸ Nat.lt_irrefl _))
    (by show IsRangeIter _ _ _ _ _; rw [hn]; simpa using Heap.get?_push_size _ rfl) hk hp (fun i v c u h tk own hi hv => ?_) done
  obtain ⟨t, rfl⟩ := hv
  rw [Int.mul_one]
  exact turn i t c u h tk own hi
end
theorem StrsAre.at' : ∀ {vs : List Value} {ys : List Str} {i : Nat} {v : Value}, StrsAre vs ys → vs[i]? = some v → ∃ y t, ys[i]? = some y ∧ v = .str y t
  | _, _, 0, v, .cons y t _, h => ⟨y, t, rfl, (Option.some.inj h).symm⟩
  | _, _, i + 1, v, .cons y t r, h => StrsAre.at' (i := i) r h
  | _, _, _, _, .nil, h => by simp at h
theorem StrsAre.len : ∀ {vs : List Value} {ys : List Str}, StrsAre vs ys → vs.length = ys.length
  | _, _, .nil => rfl
  | _, _, .cons _ _ r => by rw [List.length_cons, List.length_cons, StrsAre.len r]
theorem IsCfg.nodup {prog : Program} {w : World} {o : Obj} {c : Cfg} (h : IsCfg prog w o c) : (c.map (·.1)).Nodup := by
  obtain ⟨⟨kvs, ⟨_, _, _, _, _, _, hn⟩, hf⟩, _⟩ := h
  have e : ∀ {kvs : List (Str × Value)} {c : Cfg}, FlatPairs PyData.str kvs (cD c) → kvs.map (·.1) = c.map (·.1) := by
    intro kvs
    induction kvs with
    | nil => intro c hf; cases c with
      | nil => rfl
      | cons p c => cases hf
    | cons q kvs ih =>
      intro c hf
      cases c with
      | nil => cases hf
      | cons p c =>
        have hf' : FlatPairs PyData.str (q :: kvs) ((PyData.str p.1, p.2) :: cD c) := hf
        generalize hE : (PyData.str p.1, p.2) :: cD c = D at hf'
        cases hf' with
        | cons f r =>
          injection hE with h1 h2
          injection h1 with h3 h4
          injection h3 with h3
          subst h2
          rw [List.map_cons, List.map_cons, ih r, h3]
  rw [← e hf]
  exact hn
/-- two dicts compared -/
def sameR (cb : Cfg) : Cfg → Bool
  | [] => true
  | p :: r => match getC cb p.1 with
    | none => false
    | some u => PyData.eqv p.2 u && sameR cb r
def sameC (ca cb : Cfg) : Bool := ca.length == cb.length && sameR cb ca
theorem sameR_rows (cb : Cfg) : ∀ ca : Cfg, KeqRows (cD cb) (cD ca) (sameR cb ca)
  | [] => .nil
  | (k, v) :: r => by
    unfold sameR
    cases e : getC cb k with
    | none => exact .miss (by rw [cD_lookup, e])
    | some u => exact .hit (by rw [cD_lookup, e]) (sameR_rows cb r)
section
variable {prog : Program} {w : World} {A : Around} {E : Value → Shared → Prop} {s : Shared} {h₀ : Heap} {L : Addr} {m : Str → Option Value} {news : List (Addr × Obj)}
theorem cfg_ne {a b : Addr} {oa ob : Obj} {ca cb : Cfg} {Q : Value → Shared → Prop} (N : News h₀ L s.heap news) (ma : (a, oa) ∈ news) (mb : (b, ob) ∈ news) (Da : IsCfg prog w oa ca) (Db : IsCfg prog w ob cb)
    (la : (a == sysModules) = false) (lb : (b == sysModules) = false) (hu : A.units < cLine) (h : Q (.bool (!sameC ca cb)) s) : wpAny (model prog w) A (compareOp .NotEq (.ref a) (.ref b)) Q E s := by
  obtain ⟨⟨ka, da, fa⟩, _⟩ := Da
  obtain ⟨⟨kb, db, fb⟩, _⟩ := Db
  refine keq_ne (r := sameR cb ca) la lb (Heap.dictOf_iff.mpr ⟨oa, (N _ ma).1, da⟩) (Heap.dictOf_iff.mpr ⟨ob, (N _ mb).1, db⟩) hu (fun _ => (sameR_rows cb ca).hits PyProof.V.same_str fb fa) ?_
  rw [← fa.length, ← fb.length, cD_length, cD_length]
  exact h
theorem cfg_item {d : Addr} {o : Obj} {c : Cfg} {k : Str} {t : Tok} {dv : PyData} {value slice : PySem.Expr} {Q : Value → Shared → Prop} (N : News h₀ L s.heap news) (hm : (d, o) ∈ news) (hd : IsCfg prog w o c) (hg : getC c k = some dv)
    (h : ∀ v, Flat v dv → Q v { s with toks := s.toks + 1 })
    (hs : subscripted slice false (.ref d) (.str k t) = operate [.ref d, .str k t] (getItem (.ref d) (.str k t)) := by with_unfolding_all rfl) : wpAny (model prog w) A (subscriptTail value slice (.ref d) (.str k t)) Q E s := by
  obtain ⟨⟨kvs, a, f⟩, _⟩ := hd
  obtain ⟨v, hv, fv⟩ := f.of_lookup PyProof.V.same_str (k := k) (d := dv) (by rw [cD_lookup]; exact hg)
  exact kdt_tail N hm a (kdt_getItem N hm a (strKind_is _ _ _ _) hv (h v fv)) hs
/-- what the copy's leaf must bring -/
inductive CopyLeaf (prog : Program) (w : World) (A : Around) (env : Env) (scope : Scope) (cl : List (Str × Addr)) (x : Str) (vx : PySem.Expr) (h₀ : Heap) (L : Addr) (m : Str → Option Value) (news : List (Addr × Obj)) (Q : Value → Shared → Prop) : Value → Shared → Prop
  | mk {d : Addr} {o : Obj} {c : Cfg} {s₁ : Shared} (F : Fr h₀ L s₁.heap m) (N : News h₀ L s₁.heap news) (hm : (d, o) ∈ news) (hD : IsCfg prog w o c) (lo : (d == sysModules) = false) (hsys : h₀.NoSeer) (hc : c.length ≤ 16777216)
    (val : ∀ (C : Addr) (k : Str) (t : Tok) (dv : PyData) (s₂ : Shared) (m₂ : Str → Option Value) (E' : Value → Shared → Prop), getC c k = some dv → s₂.heap.Ns C m₂ → m₂ x = some (.str k t) → (∀ b o, s₁.heap.get? b = some o → s₂.heap.get? b = some o) →
        wpAny (model prog w) A (eval vx (compEnvC scope cl C env)) (fun y s₃ => Flat y dv ∧ Keeps s₂ s₃) E' s₂)
    (cont : ∀ D o' h' tk, Fr h₀ L h' m → News h₀ L h' ((D, o') :: news) → IsCfg prog w o' c → (D == sysModules) = false → (∀ p ∈ news, p.1 ≠ D) → Q (.ref D) { s₁ with heap := h', toks := tk }) :
    CopyLeaf prog w A env scope cl x vx h₀ L m news Q (.ref d) s₁
theorem stored_new {K : Type} [DecidableEq K] {kvs : List (K × Value)} {D : List (PyData × PyData)} {enc : K → PyData} (henc : ∀ a b, PySem.Spec.same (enc a) (enc b) = decide (a = b)) (p : FlatPairs enc kvs D) {k : K} {v : Value} {dv : PyData} (hv : Flat v dv) (hn : ∀ q ∈ D, PySem.Spec.same q.1 (enc k) = false) :
    FlatPairs enc (stored kvs k v) (D ++ [(enc k, dv)]) := by
  have e := p.stored henc k hv
  have e2 : putD (enc k) dv D = D ++ [(enc k, dv)] := by
    unfold putD
    rw [if_neg]
    intro h
    obtain ⟨q, hq, hs⟩ := List.any_eq_true.mp h
    rw [hn q hq] at hs
    cases hs
  rwa [e2] at e
theorem copy_rows {c : Cfg} (hn : (c.map (·.1)).Nodup) {l : List Value} {kvs : List (Str × Value)} (S : StoredAll (fun v k => Value.isStrOf k v = true) (fun v y => ∃ k dv, Value.isStrOf k v = true ∧ getC c k = some dv ∧ Flat y dv) l kvs) :
    (∀ (j : Nat) (v : Value), l[j]? = some v → ∃ p : Str × PyData, c[j]? = some p ∧ Value.isStrOf p.1 v = true) → l.length ≤ c.length → FlatPairs PyData.str kvs (cD (c.take l.length)) := by
  induction S with
  | nil => intro _ _; exact .nil
  | @snoc l kvs v k y S' hk hy ih =>
    intro hl hle
    rw [List.length_append, List.length_singleton] at hle ⊢
    have ih' := ih (fun j u hj => hl j u (by rw [List.getElem?_append_left (by exact (List.getElem?_eq_some_iff.mp hj).1)]; exact hj)) (by omega)
    obtain ⟨p, hp, hpv⟩ := hl l.length v (by simp)
    obtain ⟨k2, dv, hk2, hg, fy⟩ := hy
    obtain ⟨t1, e1⟩ := Value.isStrOf_shape hk
    obtain ⟨t2, e2⟩ := Value.isStrOf_shape hk2
    obtain ⟨t3, e3⟩ := Value.isStrOf_shape hpv
    have q1 : k2 = k := by rw [e1] at e2; injection e2 with q; exact q.symm
    have q2 : p.1 = k := by rw [e1] at e3; injection e3 with q; exact q.symm
    subst q1
    have hdv : p.2 = dv := by
      have hmem := List.mem_of_getElem? hp
      have : getC c k2 = some p.2 := by
        unfold getC
        have hf : ∀ c : Cfg, (c.map (·.1)).Nodup → p ∈ c → c.find? (fun q => decide (q.1 = k2)) = some p := by
          intro c
          induction c with
          | nil => intro _ h; cases h
          | cons a r ihr =>
            intro hn' hm
            rw [List.map_cons, List.nodup_cons] at hn'
            rw [List.find?_cons]
            rcases List.mem_cons.mp hm with rfl | hm
            · simp [q2]
            · have : a.1 ≠ k2 := fun e => hn'.1 (by rw [e, ← q2]; exact List.mem_map_of_mem (f := (·.1)) hm)
              simp only [this, decide_false]
              exact ihr hn'.2 hm
        rw [hf c hn hmem]; rfl
      rw [this] at hg
      exact Option.some.inj hg
    have e : cD (c.take (l.length + 1)) = cD (c.take l.length) ++ [(PyData.str k2, dv)] := by
      rw [List.take_add_one, hp]
      unfold cD
      rw [List.map_append]
      simp [q2, hdv]
    rw [e]
    refine stored_new PyProof.V.same_str ih' fy fun q hq => ?_
    unfold cD at hq
    obtain ⟨r, hr, rfl⟩ := List.mem_map.mp hq
    show PySem.Spec.same (PyData.str r.1) (PyData.str k2) = false
    rw [PyProof.V.same_str]
    refine decide_eq_false fun er => ?_
    obtain ⟨i, hi⟩ := List.getElem?_of_mem hr
    have hil : i < l.length := by
      have := (List.getElem?_eq_some_iff.mp hi).1
      rw [List.length_take] at this
      omega
    rw [List.getElem?_take_of_lt hil] at hi
    have a1 : (c.map (·.1))[i]? = some k2 := by rw [List.getElem?_map, hi]; exact congrArg some er
    have a2 : (c.map (·.1))[l.length]? = some k2 := by rw [List.getElem?_map, hp]; exact congrArg some q2
    have := (List.getElem?_inj (by exact (List.getElem?_eq_some_iff.mp a1).1) hn).mp (a1.trans a2.symm)
    omega
theorem copy_cfg {env : Env} {vx iter : PySem.Expr} {x : Str} {px px' : Pos} {scope : Scope} {cl : List (Str × Addr)} {pos : Pos} {Q : Value → Shared → Prop}
    (F₁ : Fr h₀ L s.heap m) (N₁ : News h₀ L s.heap news) (hh : A.handled = none) (hclos : closureFor scope env = pure cl) (hcell : ∀ y ∈ scope.names, y.2 ≠ .cell) (hkind : scope.kind = .function)
    (hnames : ∀ y ∈ scope.names, y.2 = .local → scope.names.lookup y.1 = some .local) (hx : scope.names.lookup x = some .local) (hdb : (x == ("__debug__" : Str)) = false)
    (h : wpAny (model prog w) A (eval iter env) (fun xv s₁ => CopyLeaf prog w A env scope cl x vx h₀ L m news Q xv s₁) E s)
    (hs : ∀ x, foldedSetIterable iter env x = pure x) :
    wpAny (model prog w) A (eval (.DictComp (.Name x px') vx [⟨.Name x px, iter, [], 0⟩] scope pos) env) Q E s := by
  rw [arm_eval_DictComp]
  refine wpAny_comprehension_free (use := none) rfl hs hclos hkind hnames (wpAny_mono h (fun xv s₁ h₁ => ?_) fun _ _ e => e)
  obtain ⟨F, N, hm, hD, lo, hsys, hc, val, cont⟩ := h₁
  rename_i d o c
  have hnd := hD.nodup
  obtain ⟨⟨kvs, a, hf⟩, hsh⟩ := hD
  have hDo : s₁.heap.DictOf (PySem.strKind prog w) d kvs := kda_dict N hm a
  obtain ⟨ep, hat⟩ := hDo.dictAt
  have hlen : kvs.length = c.length := by rw [← hf.length, cD_length]
  have hlt : d < s₁.heap.objs.size := hat.lt_size
  refine wpAny_pyIter_dict lo hat ?_
  have up : ∀ (s₃ : Shared), (∀ b o, b ∉ [s₁.heap.objs.size] → (s₁.heap.push { cls := .type "dict_keyiterator", data := .fields #[.ref d, .int 0 0, .int kvs.length 0, .int ep 0] }).get? b = some o → s₃.heap.get? b = some o) → ∀ b o, s₁.heap.get? b = some o → s₃.heap.get? b = some o :=
    fun s₃ hk b o e => hk b o (fun hm => by rcases List.mem_cons.mp hm with rfl | hm; exact Nat.lt_irrefl _ (Heap.lt_size e); cases hm) (Heap.get?_push_of_some _ e)
  have keyAt : ∀ (i : Nat) (v : Value), (∃ k x, kvs[i]? = some (k, x) ∧ (strKind prog w).is k v = true) → ∃ p : Str × PyData, c[i]? = some p ∧ Value.isStrOf p.1 v = true := by
    rintro i v ⟨k, x, hx, hk⟩
    obtain ⟨dv, hd, _⟩ := hf.at hx
    have hd' : (c[i]?).map (fun p => (PyData.str p.1, p.2)) = some (PyData.str k, dv) := by rw [← List.getElem?_map]; exact hd
    cases hcj : c[i]? with
    | none => rw [hcj] at hd'; cases hd'
    | some p =>
      rw [hcj] at hd'
      have e1 : PyData.str p.1 = PyData.str k := congrArg Prod.fst (Option.some.inj hd')
      injection e1 with e1
      exact ⟨p, rfl, by rw [e1]; exact hk⟩
  refine comp_block_walkCD (knd := strKind prog w) (RR := fun acc C => compPost (model prog w) A E none Q acc C) (Walks.dictKeys hh _ d (Nat.ne_of_lt hlt) kvs ep) (by rw [hlen, sizeLine_eq]; exact hc) (fun _ => true) (fun v k => Value.isStrOf k v = true)
    (fun v y => ∃ k dv, Value.isStrOf k v = true ∧ getC c k = some dv ∧ Flat y dv) hcell hkind hx ⟨⟨_, Heap.get?_push_size _ rfl, rfl, rfl⟩, hat.push _⟩ ?_ ⟨?_, ?_, ?_⟩ ?_
  · intro b hb
    show b < (s₁.heap.push _).objs.size
    rw [Heap.size_push]
    rcases List.mem_cons.mp hb with rfl | hb
    · exact Nat.lt_succ_self _
    · rcases List.mem_cons.mp hb with rfl | hb
      · exact Nat.lt_succ_of_lt hlt
      · cases hb
  · intro C i v s₃ m₃ E' hP hn hm hk
    exact wpAny_pure ⟨rfl, _, _, rfl, fun _ _ e => e⟩
  · intro C i v s₃ m₃ E' hP hp hn hm hk
    obtain ⟨p, hp1, hp2⟩ := keyAt i v hP
    refine wpAny_Name (wpAny_loadName_local (v := v) hkind (lookup_relabel_local hx) hn hm ?_) hdb
    exact ⟨⟨p.1, hp2, hp2⟩, _, _, rfl, fun _ _ e => e⟩
  · intro C i v s₃ m₃ E' hP hp hn hm hk
    obtain ⟨p, hp1, hp2⟩ := keyAt i v hP
    obtain ⟨t, rfl⟩ := Value.isStrOf_shape hp2
    have hg : ∃ dv, getC c p.1 = some dv := by
      have : hasC c p.1 = true := by
        unfold hasC
        exact List.any_eq_true.mpr ⟨p, List.mem_of_getElem? hp1, by simp⟩
      rw [← getC_isSome] at this
      exact Option.isSome_iff_exists.mp this
    obtain ⟨dv, hg⟩ := hg
    exact wpAny_mono (val C p.1 t dv s₃ m₃ E' hg hn hm (up s₃ hk)) (fun y s₄ h₄ => ⟨⟨p.1, dv, hp2, hg, h₄.1⟩, h₄.2⟩) fun _ _ e => e
  · intro D C h' tk m' kvs' vs' hDn hC hDC hn hlD hlen' hP hF hk
    refine ⟨m', hn, fun h'' hs'' => ?_⟩
    have keep : ∀ b o, s₁.heap.get? b = some o → h''.get? b = some o := fun b o e =>
      hs''.extBut b o (by rintro rfl; rw [Heap.get?_push_of_some _ e] at hC; cases hC) (up { s₁ with heap := h' } hk b o e)
    have hl2 : h''.DictOf (strKind prog w) D kvs' := hlD.extBut hs''.extBut hDC
    obtain ⟨o', ho', hd'⟩ := Heap.dictOf_iff.mp hl2
    have hDs : s₁.heap.get? D = none := by
      cases e : s₁.heap.get? D with
      | none => rfl
      | some o => exact absurd ((Heap.get?_push_of_some _ e).symm.trans hDn) (fun e => nomatch e)
    have h0D : h₀.get? D = none := by
      cases e : h₀.get? D with
      | none => rfl
      | some o => rw [F.keep _ _ e] at hDs; cases hDs
    have hDL : D ≠ L := by
      rintro rfl
      obtain ⟨o, _, _, ho, _⟩ := F.ns
      rw [ho] at hDs; cases hDs
    have hfil : vs'.filter (fun _ => true) = vs' := List.filter_eq_self.mpr fun _ _ => rfl
    rw [hfil] at hF
    have hfl := copy_rows hnd hF (fun j v hj => keyAt j v (hP j v hj)) (by rw [hlen', hlen]; exact Nat.le_refl _)
    rw [hlen', hlen, List.take_length] at hfl
    refine cont D o' h'' tk (F.keeps keep) ?_ ⟨⟨kvs', hd', hfl⟩, hsh⟩ ?_ ?_
    · intro p hp
      rcases List.mem_cons.mp hp with rfl | hp
      · exact ⟨ho', hDL, h0D⟩
      · exact N.grown keep p hp
    · refine beq_eq_false_iff_ne.mpr ?_
      rintro rfl
      obtain ⟨mm, ⟨o, _, _, ho, _⟩, _⟩ := hsys.mods
      rw [ho] at h0D; cases h0D
    · rintro p hp rfl
      rw [(N p hp).1] at hDs; cases hDs
/-- comprehensions over a range by twos that make ints -/
theorem small_two {a b : Int} (ha : 0 ≤ a) (ha' : a ≤ 1) (hb : 0 ≤ b) (hb' : b ≤ 1000) : Builtin.Range.small a b 2 = true := by
  unfold Builtin.Range.small
  simp only [Builtin.Range.rangeSize, Builtin.Range.rangeFitsLong, Bool.and_eq_true, Bool.or_eq_true, decide_eq_true_eq, beq_iff_eq, show (2 : Int) > 0 by decide, if_true]
  split <;> omega
theorem size_two {a b : Int} (ha : 0 ≤ a) (hb : b ≤ 12) : ∃ n : Nat, Builtin.Range.rangeSize a b 2 = (n : Int) ∧ n ≤ 6 ∧ ∀ i : Nat, i < n → a + (i : Int) * 2 < b := by
  refine ⟨(Builtin.Range.rangeSize a b 2).toNat, ?_, ?_, ?_⟩
  all_goals
    simp only [Builtin.Range.rangeSize, show (2 : Int) > 0 by decide, if_true]
  · split <;> omega
  · split <;> omega
  · intro i
    split <;> omega
theorem paired_ints {PP : Int → Prop} : ∀ {vs ys : List Value}, Paired (fun (_ : Value) y => ∃ z t, y = .int z t ∧ PP z) vs ys → ∃ zs, IntsAre ys zs ∧ zs.length = vs.length ∧ ∀ z ∈ zs, PP z
  | _, _, .nil => ⟨[], .nil, rfl, fun _ h => nomatch h⟩
  | _, _, .cons ⟨z, t, e, hz⟩ r =>
    let ⟨zs, h1, h2, h3⟩ := paired_ints r
    ⟨z :: zs, by rw [e]; exact .cons z t h1, by rw [List.length_cons, List.length_cons, h2], fun y hy => (List.mem_cons.mp hy).elim (fun q => by rw [q]; exact hz) (h3 y)⟩
theorem walksLt {I : Addr} {fp wr : List Addr} {n : Nat} {P : Nat → Value → Prop} {St : Nat → Heap → Prop} (W : Walks prog w A I fp wr n P St) : Walks prog w A I fp wr n (fun i v => i < n ∧ P i v) St where
  sub := W.sub
  frame := W.frame
  item := fun i s Q E hi st hQ => W.item i s Q E hi st fun v h' tk hP => hQ v h' tk ⟨hi, hP⟩
  done := W.done
  self := W.self
inductive StrideLeaf (prog : Program) (w : World) (A : Around) (env : Env) (scope : Scope) (cl : List (Str × Addr)) (x : Str) (elt : PySem.Expr) (h₀ : Heap) (L : Addr) (m : Str → Option Value) (news : List (Addr × Obj)) (Fin : Shared → Addr → List Value → Heap → Nat → Prop) : Value → Shared → Prop
  | mk {r : Addr} {a b : Int} {t u v : Tok} {s₁ : Shared} (PP : Int → Prop) (F : Fr h₀ L s₁.heap m) (N : News h₀ L s₁.heap news) (hr : IsRange s₁.heap r a b 2 t u v) (ha : 0 ≤ a) (ha' : a ≤ 1) (hb : 0 ≤ b) (hb' : b ≤ 12)
    (el : ∀ (C : Addr) (z : Int) (t : Tok) (s₂ : Shared) (m₂ : Str → Option Value) (E' : Value → Shared → Prop), a ≤ z → z < b → s₂.heap.Ns C m₂ → m₂ x = some (.int z t) → (∀ b o, s₁.heap.get? b = some o → s₂.heap.get? b = some o) →
        wpAny (model prog w) A (eval elt (compEnvC scope cl C env)) (fun y s₃ => (∃ z t, y = .int z t ∧ PP z) ∧ Keeps s₂ s₃) E' s₂)
    (fin : ∀ (D : Addr) (vs : List Value) (zs : List Int) (n : Nat) (h' : Heap) (tk : Nat), IntsAre vs zs → zs.length ≤ 6 → (∀ z ∈ zs, PP z) → News h₀ L h' ((D, listOf vs.toArray n) :: news) → (∀ p ∈ news, p.1 ≠ D) → Fin s₁ D vs h' tk) :
    StrideLeaf prog w A env scope cl x elt h₀ L m news Fin (.ref r) s₁
theorem stride_eval {env : Env} {elt iter : PySem.Expr} {x : Str} {px : Pos} {scope : Scope} {cl : List (Str × Addr)} {pos : Pos} {Q : Value → Shared → Prop}
    (F₁ : Fr h₀ L s.heap m) (N₁ : News h₀ L s.heap news) (hh : A.handled = none) (hclos : closureFor scope env = pure cl) (hcell : ∀ y ∈ scope.names, y.2 ≠ .cell) (hkind : scope.kind = .function)
    (hnames : ∀ y ∈ scope.names, y.2 = .local → scope.names.lookup y.1 = some .local) (hx : scope.names.lookup x = some .local)
    (h : wpAny (model prog w) A (eval iter env) (fun xv s₁ => StrideLeaf prog w A env scope cl x elt h₀ L m news (fun s₁ D vs h' tk => Fr h₀ L h' m → Q (.ref D) { s₁ with heap := h', toks := tk }) xv s₁) E s)
    (hs : ∀ x, foldedSetIterable iter env x = pure x) :
    wpAny (model prog w) A (eval (.ListComp elt [⟨.Name x px, iter, [], 0⟩] scope pos) env) Q E s := by
  rw [eval_ListComp]
  refine wpAny_comprehension_free (use := none) rfl hs hclos hkind hnames (wpAny_mono h (fun xv s₁ h₁ => ?_) fun _ _ e => e)
  obtain ⟨PP, F, N, hr, ha, ha', hb, hb', el, fin⟩ := h₁
  rename_i r a bb t u v
  obtain ⟨n, hn, hn6, hlt⟩ := size_two (a := a) (b := bb) ha hb'
  refine wpAny_pyIter_range hr (small_two ha ha' hb (by omega)) ?_
  have up : ∀ (s₃ : Shared), (∀ b o, b ∉ [s₁.heap.objs.size] → (s₁.heap.push { cls := .type "range_iterator", data := .fields #[rawInt a, rawInt (Builtin.Range.rangeSize a bb 2), rawInt 2] }).get? b = some o → s₃.heap.get? b = some o) → ∀ b o, s₁.heap.get? b = some o → s₃.heap.get? b = some o :=
    fun s₃ hk b o e => hk b o (fun hm => by rcases List.mem_cons.mp hm with rfl | hm; exact Nat.lt_irrefl _ (Heap.lt_size e); cases hm) (Heap.get?_push_of_some _ e)
  refine comp_block_walkC (RR := fun acc C => compPost (model prog w) A E none Q acc C) (walksLt (Walks.range hh s₁.heap.objs.size a 2 n)) (by rw [sizeLine_eq]; omega) (fun _ => true) (fun _ y => ∃ z t, y = .int z t ∧ PP z) hcell hkind hx
    (by show IsRangeIter _ _ _ _ _; rw [hn]; simpa using Heap.get?_push_size _ rfl) ?_ ⟨?_, ?_⟩ ?_
  · intro b hb
    rw [List.mem_singleton.mp hb]
    show _ < (s₁.heap.push _).objs.size
    rw [Heap.size_push]
    exact Nat.lt_succ_self _
  · intro C i v s₃ m₃ E' _ hP hn hm hk _
    exact wpAny_pure ⟨rfl, _, _, rfl, fun _ _ e => e⟩
  · intro C i v s₃ m₃ E' _ hP hp hn' hm hk _
    obtain ⟨hin, t, rfl⟩ := hP
    exact el C _ t s₃ m₃ E' (by omega) (hlt i hin) hn' hm (up s₃ hk)
  · intro D C h' tk m' ys vs' hDn hC hDC hn' hlD hpl hlen' hP hF hk
    refine ⟨m', hn', fun h'' hs'' => ?_⟩
    have keep : ∀ b o, s₁.heap.get? b = some o → h''.get? b = some o := fun b o e =>
      hs''.extBut b o (by rintro rfl; rw [Heap.get?_push_of_some _ e] at hC; cases hC) (up { s₁ with heap := h' } hk b o e)
    have hpl2 := hpl.extBut hs''.extBut hDC
    obtain ⟨cap, ho'⟩ := hpl2
    have hDs : s₁.heap.get? D = none := by
      cases e : s₁.heap.get? D with
      | none => rfl
      | some o => exact absurd ((Heap.get?_push_of_some _ e).symm.trans hDn) (fun e => nomatch e)
    have h0D : h₀.get? D = none := by
      cases e : h₀.get? D with
      | none => rfl
      | some o => rw [F.keep _ _ e] at hDs; cases hDs
    have hDL : D ≠ L := by
      rintro rfl
      obtain ⟨o, _, _, ho, _⟩ := F.ns
      rw [ho] at hDs; cases hDs
    obtain ⟨zs, z1, z2, z3⟩ := paired_ints hF
    have hfil : vs'.filter (fun _ => true) = vs' := List.filter_eq_self.mpr fun _ _ => rfl
    rw [hfil, hlen'] at z2
    refine fin D ys.toList zs cap h'' tk z1 (by omega) z3 ?_ ?_ (F.keeps keep)
    · intro p hp
      rcases List.mem_cons.mp hp with rfl | hp
      · exact ⟨ho', hDL, h0D⟩
      · exact N.grown keep p hp
    · rintro p hp rfl
      rw [(N p hp).1] at hDs; cases hDs
theorem stride_assign {env : Env} {elt iter : PySem.Expr} {x y : Str} {px py : Pos} {scope : Scope} {cl : List (Str × Addr)} {pos spos : Pos} {Q : Flow → Shared → Prop}
    (F₁ : Fr h₀ L s.heap m) (N₁ : News h₀ L s.heap news) (hLe : env.locals = L)
    (hsw : swapsWith (.ListComp elt [⟨.Name x px, iter, [], 0⟩] scope pos) (some (.Name y py)) spos.line env = pure true)
    (hh : A.handled = none) (hclos : closureFor scope env = pure cl) (hcell : ∀ y ∈ scope.names, y.2 ≠ .cell) (hkind : scope.kind = .function)
    (hnames : ∀ y ∈ scope.names, y.2 = .local → scope.names.lookup y.1 = some .local) (hx : scope.names.lookup x = some .local)
    (hy : env.kindOf y = some .local) (hp : (env.scope.kind == .class || (env.scope.kind == .module && env.locals != env.globals)) = false)
    (h : wpAny (model prog w) A (eval iter env) (fun xv s₁ => StrideLeaf prog w A env scope cl x elt h₀ L m news (fun s₁ D vs h' tk => Fr h₀ L h' (fun z => if z = y then some (.ref D) else m z) → Q .next { s₁ with heap := h', toks := tk }) xv s₁) E s)
    (hs : ∀ x, foldedSetIterable iter env x = pure x) :
    wpAny (model prog w) A (exec (.Assign [.Name y py] (.ListComp elt [⟨.Name x px, iter, [], 0⟩] scope pos) spos) env) Q E s := by
  rw [exec_Assign_Name_used _ _ _ _ hsw]
  refine wpAny_bind (wpAny_standAt (wpAny_bind ?_))
  show wpAny _ A (do let _ ← comprehension (.ListComp elt [⟨.Name x px, iter, [], 0⟩] scope pos) scope env _ (newList []) false (eval iter env) (some (assign (.Name y py) env))) _ _ s
  refine wpAny_bind (wpAny_mono (wpAny_comprehension_free (use := some (assign (.Name y py) env)) (Q := fun _ s' => Q .next s') rfl hs hclos hkind hnames
    (wpAny_mono h (fun xv s₁ h₁ => ?_) fun _ _ e => e)) (fun _ s' hq => wpAny_pure (wpAny_pure hq)) fun _ _ e => e)
  obtain ⟨PP, F, N, hr, ha, ha', hb, hb', el, fin⟩ := h₁
  rename_i r a bb t u v
  obtain ⟨n, hn, hn6, hlt⟩ := size_two (a := a) (b := bb) ha hb'
  refine wpAny_pyIter_range hr (small_two ha ha' hb (by omega)) ?_
  have up : ∀ (s₃ : Shared), (∀ b o, b ∉ [s₁.heap.objs.size] → (s₁.heap.push { cls := .type "range_iterator", data := .fields #[rawInt a, rawInt (Builtin.Range.rangeSize a bb 2), rawInt 2] }).get? b = some o → s₃.heap.get? b = some o) → ∀ b o, s₁.heap.get? b = some o → s₃.heap.get? b = some o :=
    fun s₃ hk b o e => hk b o (fun hm => by rcases List.mem_cons.mp hm with rfl | hm; exact Nat.lt_irrefl _ (Heap.lt_size e); cases hm) (Heap.get?_push_of_some _ e)
  refine comp_block_walkC (RR := fun acc C => compPost (model prog w) A E (some (assign (.Name y py) env)) (fun _ s' => Q .next s') acc C) (walksLt (Walks.range hh s₁.heap.objs.size a 2 n)) (by rw [sizeLine_eq]; omega) (fun _ => true) (fun _ y => ∃ z t, y = .int z t ∧ PP z) hcell hkind hx
    (by show IsRangeIter _ _ _ _ _; rw [hn]; simpa using Heap.get?_push_size _ rfl) ?_ ⟨?_, ?_⟩ ?_
  · intro b hb
    rw [List.mem_singleton.mp hb]
    show _ < (s₁.heap.push _).objs.size
    rw [Heap.size_push]
    exact Nat.lt_succ_self _
  · intro C i v s₃ m₃ E' _ hP hn hm hk _
    exact wpAny_pure ⟨rfl, _, _, rfl, fun _ _ e => e⟩
  · intro C i v s₃ m₃ E' _ hP hp hn' hm hk _
    obtain ⟨hin, t, rfl⟩ := hP
    exact el C _ t s₃ m₃ E' (by omega) (hlt i hin) hn' hm (up s₃ hk)
  · intro D C h' tk m' ys vs' hDn hC hDC hn' hlD hpl hlen' hP hF hk
    have hDs : s₁.heap.get? D = none := by
      cases e : s₁.heap.get? D with
      | none => rfl
      | some o => exact absurd ((Heap.get?_push_of_some _ e).symm.trans hDn) (fun e => nomatch e)
    have hCs : s₁.heap.get? C = none := by
      cases e : s₁.heap.get? C with
      | none => rfl
      | some o => exact absurd ((Heap.get?_push_of_some _ e).symm.trans hC) (fun e => nomatch e)
    have h0D : h₀.get? D = none := by
      cases e : h₀.get? D with
      | none => rfl
      | some o => rw [F.keep _ _ e] at hDs; cases hDs
    have hLn := F.ns
    have hLC : env.locals ≠ C := by rw [hLe]; rintro rfl; obtain ⟨o, _, _, ho, _⟩ := hLn; rw [hCs] at ho; cases ho
    have hLD : env.locals ≠ D := by rw [hLe]; rintro rfl; obtain ⟨o, _, _, ho, _⟩ := hLn; rw [hDs] at ho; cases ho
    show wpAny _ A (assign (.Name y py) env (.ref D)) _ _ _
    refine wpAny_assign_Name (wpAny_storeName_local hy (by rw [hLe]; exact hLn.at' fun o e => up { s₁ with heap := h' } hk _ o e) (fun h₂ hn₂ hs₂ => ?_) hp)
    refine ⟨m', hn'.sameBut hs₂ (Ne.symm hLC), fun h₃ hs₃ => ?_⟩
    have keep : ∀ b o, b ≠ L → s₁.heap.get? b = some o → h₃.get? b = some o := fun b o hbL e =>
      hs₃.extBut b o (by rintro rfl; rw [hCs] at e; cases e) (hs₂.extBut b o (by rw [hLe]; exact hbL) (up { s₁ with heap := h' } hk b o e))
    obtain ⟨cap, ho'⟩ := (hpl.extBut hs₂.extBut (Ne.symm hLD)).extBut hs₃.extBut hDC
    obtain ⟨zs, z1, z2, z3⟩ := paired_ints hF
    have hfil : vs'.filter (fun _ => true) = vs' := List.filter_eq_self.mpr fun _ _ => rfl
    rw [hfil, hlen'] at z2
    refine fin D ys.toList zs cap h₃ _ z1 (by omega) z3 ?_ ?_ ⟨by rw [← hLe]; exact hn₂.sameBut hs₃ hLC, fun b o e => keep b o (Nat.ne_of_lt (Nat.lt_of_lt_of_le (Heap.lt_size e) F.above)) (F.keep b o e), F.above⟩
    · intro p hp
      rcases List.mem_cons.mp hp with rfl | hp
      · exact ⟨ho', by rw [← hLe]; exact Ne.symm hLD, h0D⟩
      · exact ⟨keep _ _ (N p hp).2.1 (N p hp).1, (N p hp).2⟩
    · rintro p hp rfl
      rw [(N p hp).1] at hDs; cases hDs
end
section
variable {prog : Program} {w : World} {A : Around} {E : Value → Shared → Prop} {s : Shared} {env : Env} {h₀ : Heap} {x : Str} {body : List Stmt} {Q : Flow → Shared → Prop}
/-- the same for any target of the for -/
theorem turnsSrc {σ : Type} {target : PySem.Expr} {I : Addr} {fp : List Addr} {n : Nat} {Pv Md : Nat → Value → Heap → Prop} {St : Nat → Heap → Prop} {m₀ : Str → Option Value} (Led : σ → List (Addr × Obj)) (ps : σ → List (Str × Value)) (stored : List Str) (P : Nat → σ → Prop) (c₀ : σ)
    (W : KTurns prog w A target I fp [I] n Pv Md St) (hfp : ∀ b ∈ fp, b = I ∨ ∃ src, ∀ c, (b, src) ∈ Led c) (hIfp : I ∈ fp) (hSt : ∀ i h, St i h → ∃ o, h.get? I = some o) (F : Fr h₀ env.locals s.heap m₀) (N : News h₀ env.locals s.heap (Led c₀))
    (hI0 : h₀.get? I = none) (hIL : I ≠ env.locals) (hIN : ∀ p ∈ Led c₀, p.1 ≠ I) (hst : St 0 s.heap) (hk : ∀ p ∈ ps c₀, m₀ p.1 = some p.2) (hp : P 0 c₀)
    (turn : ∀ i v c (u : Str → Option Value) h tk own, i < n → Pv i v h → OwnOff own ((Led c).map (·.1)) → P i c →
      Fr h₀ env.locals h (fun y => if y = PySem.Str.ofString "" then u y else kstB (fun z => if stored.contains z then u z else m₀ z) (ps c) y) → News h₀ env.locals h (Led c ++ own) →
      wpAny (model prog w) A (assign target env v) (fun _ s₂ => wpAny (model prog w) A (execs body env) (InvPostG h₀ env.locals (LoopJ Led ps (PySem.Str.ofString "") stored m₀ (P (i + 1))) own { s with heap := h, toks := tk } Q) E s₂) E { s with heap := h, toks := tk })
    (done : ∀ c (u : Str → Option Value) h tk, P n c → Fr h₀ env.locals h (fun y => if y = PySem.Str.ofString "" then u y else kstB (fun z => if stored.contains z then u z else m₀ z) (ps c) y) → News h₀ env.locals h (Led c) → Q .next { s with heap := h, toks := tk }) :
    TurnsAt prog w A h₀ env target body Q E (.ref I) s := by
  refine ⟨I, fp, [I], n, Pv, Md, St, m₀, Led c₀, fun i m nx => LoopJ Led ps (PySem.Str.ofString "") stored m₀ (P i) m nx, rfl, W, ?_, ?_, ?_, hst, F, N, ⟨c₀, rfl, hk, fun _ _ _ _ => rfl, hp⟩, ?_, ?_⟩
  · intro hm
    rcases hfp _ hm with e | ⟨src, e⟩
    · exact hIL e.symm
    · exact (N _ (e c₀)).2.1 rfl
  · intro b hb
    rw [List.mem_singleton.mp hb]; exact hI0
  · intro p hp' hm
    exact hIN p hp' (List.mem_singleton.mp hm)
  · rintro i v m₁ nx h tk own hin hv ⟨c, rfl, k1, k2, hc⟩ hoff hown hget hall hst₁ F₁ N₁
    have memI : ∃ o, (I, o) ∈ own.filter fun p => decide (p.1 = I) := by
      obtain ⟨o, ho⟩ := hSt _ _ hst₁
      exact ⟨o, List.mem_filter.mpr ⟨hall I hIfp hI0 o ho, by simp⟩⟩
    have sep : OwnOff (own.filter fun p => decide (p.1 = I)) ((Led c).map (·.1)) := by
      intro p hp' b hb e
      obtain ⟨q, hq, rfl⟩ := List.mem_map.mp hb
      have e1 : p.1 = I := of_decide_eq_true (List.mem_filter.mp hp').2
      exact hoff q hq (List.mem_singleton.mpr (e ▸ e1))
    have N₂ : News h₀ env.locals h (Led c ++ own.filter fun p => decide (p.1 = I)) := News.sub N₁ fun p hp' => by
      rcases List.mem_append.mp hp' with hp' | hp'
      · exact List.mem_append_right _ hp'
      · exact List.mem_append_left _ (List.mem_filter.mp hp').1
    have fin : ∀ s₂, InvEndG h₀ env.locals (LoopJ Led ps (PySem.Str.ofString "") stored m₀ (P (i + 1))) (own.filter fun p => decide (p.1 = I)) { s with heap := h, toks := tk } s₂ →
        LoopStepU h₀ env.locals [I] own (LoopJ Led ps (PySem.Str.ofString "") stored m₀ (P (i + 1))) { s with heap := h, toks := tk } .next s₂ := by
      rintro s₂ ⟨h', tk', m', news', nx, rfl, F', N', hn, ho, ha, hJ⟩
      refine LoopStepU.intro F' (fun p hp' => ?_) (fun p hp' hm => ?_) hJ
      · rcases List.mem_append.mp hp' with hp' | hp'
        · by_cases e : p.1 = I
          · exact N' p (ho p (List.mem_filter.mpr ⟨hp', by simp [e]⟩))
          · rcases hfp _ (hown p hp') with e2 | ⟨src, e2⟩
            · exact absurd e2 e
            · have g1 := hget p hp'
              have g2 := (N₂ _ (List.mem_append_left _ (e2 c))).1
              have e3 : p = (p.1, src) := Prod.ext rfl (Option.some.inj (g1.symm.trans g2))
              obtain ⟨c', rfl, _⟩ := hJ
              rw [e3]
              exact N' _ (hn _ (e2 c'))
        · exact N' p (hn p hp')
      · obtain ⟨o, hmo⟩ := memI
        exact ha _ hmo p.1 (List.mem_map_of_mem hp') (List.mem_singleton.mp hm).symm
    refine wpAny_mono (turn i v c m₁ h tk _ hin hv sep hc (kst_frOut k1 k2 F₁) N₂) (fun _ s₂ h₂ => wpAny_mono h₂ (fun f s₃ post => ?_) fun _ _ e => e) fun _ _ e => e
    cases f with
    | ret v => exact .ret post
    | brk => exact .brk post
    | next => exact .next (fin _ post)
    | cont => exact .cont (fin _ post)
  · rintro h' tk m' news' F' N' _ ⟨c, rfl, k1, k2, hc⟩
    exact done c m' h' tk hc (kst_frOut k1 k2 F') N'
theorem turnsT {σ : Type} {target : PySem.Expr} {l : Addr} {vs : List Value} {nn : Nat} {m₀ : Str → Option Value} (Led : σ → List (Addr × Obj)) (ps : σ → List (Str × Value)) (stored : List Str) (P : Nat → σ → Prop) (c₀ : σ)
    (hh : A.handled = none) (hl : ∀ c, (l, ({ cls := .type "tuple", data := .seq vs.toArray nn } : Obj)) ∈ Led c) (F : Fr h₀ env.locals s.heap m₀) (N : News h₀ env.locals s.heap (Led c₀)) (hk : ∀ p ∈ ps c₀, m₀ p.1 = some p.2) (hp : P 0 c₀)
    (turn : ∀ i v c (u : Str → Option Value) h tk own, vs[i]? = some v → OwnOff own ((Led c).map (·.1)) → P i c →
      Fr h₀ env.locals h (fun y => if y = PySem.Str.ofString "" then u y else kstB (fun z => if stored.contains z then u z else m₀ z) (ps c) y) → News h₀ env.locals h (Led c ++ own) →
      wpAny (model prog w) A (assign target env v) (fun _ s₂ => wpAny (model prog w) A (execs body env) (InvPostG h₀ env.locals (LoopJ Led ps (PySem.Str.ofString "") stored m₀ (P (i + 1))) own { s with heap := h, toks := tk } Q) E s₂) E { s with heap := h, toks := tk })
    (done : ∀ c (u : Str → Option Value) h tk, P vs.length c → Fr h₀ env.locals h (fun y => if y = PySem.Str.ofString "" then u y else kstB (fun z => if stored.contains z then u z else m₀ z) (ps c) y) → News h₀ env.locals h (Led c) → Q .next { s with heap := h, toks := tk }) :
    wpAny (model prog w) A (pyIter (.ref l)) (fun it s₂ => TurnsAt prog w A h₀ env target body Q E it s₂) E s := by
  have ho := (N _ (hl c₀)).1
  have ht : s.heap.IsTuple l vs.toArray := ⟨_, ho, rfl, nn, rfl⟩
  have hne : l ≠ s.heap.objs.size := Nat.ne_of_lt (Heap.lt_size ho)
  refine wpAny_pyIter_tuple ht ?_
  refine turnsSrc (s := { s with heap := s.heap.push _ }) Led ps stored P c₀ (KTurns.ofWalks (Walks.tuple (prog := prog) (w := w) hh s.heap.objs.size l hne vs.toArray) fun i v s Q E st q => letGo_tupleiter st.1 q)
    (fun b hb => (List.mem_cons.mp hb).imp id fun e => ⟨{ cls := .type "tuple", data := .seq vs.toArray nn }, by obtain rfl := List.mem_singleton.mp e; exact hl⟩) (.head _) (fun i h st => let ⟨⟨o, ho, _⟩, _⟩ := st; ⟨o, ho⟩) (F.push _)
    (fun p hp => ⟨Heap.get?_push_of_some _ (N p hp).1, (N p hp).2⟩) (next_is_new F) (fun e => absurd F.ns.lt (e ▸ Nat.lt_irrefl _)) (fun p hp e => absurd (Heap.lt_size (N p hp).1) (e ▸ Nat.lt_irrefl _))
    ⟨⟨_, Heap.get?_push_size _ rfl, rfl, rfl⟩, ht.push _⟩ hk hp (fun i v c u h tk own hi hv => turn i v c u h tk own (by simpa using hv)) fun c u h tk hP => done c u h tk (by simpa using hP)
theorem turnsL {σ : Type} {target : PySem.Expr} {l : Addr} {vs : List Value} {nn : Nat} {m₀ : Str → Option Value} (Led : σ → List (Addr × Obj)) (ps : σ → List (Str × Value)) (stored : List Str) (P : Nat → σ → Prop) (c₀ : σ)
    (hh : A.handled = none) (hl : ∀ c, (l, listOf vs.toArray nn) ∈ Led c) (F : Fr h₀ env.locals s.heap m₀) (N : News h₀ env.locals s.heap (Led c₀)) (hk : ∀ p ∈ ps c₀, m₀ p.1 = some p.2) (hp : P 0 c₀)
    (turn : ∀ i v c (u : Str → Option Value) h tk own, vs[i]? = some v → OwnOff own ((Led c).map (·.1)) → P i c →
      Fr h₀ env.locals h (fun y => if y = PySem.Str.ofString "" then u y else kstB (fun z => if stored.contains z then u z else m₀ z) (ps c) y) → News h₀ env.locals h (Led c ++ own) →
      wpAny (model prog w) A (assign target env v) (fun _ s₂ => wpAny (model prog w) A (execs body env) (InvPostG h₀ env.locals (LoopJ Led ps (PySem.Str.ofString "") stored m₀ (P (i + 1))) own { s with heap := h, toks := tk } Q) E s₂) E { s with heap := h, toks := tk })
    (done : ∀ c (u : Str → Option Value) h tk, P vs.length c → Fr h₀ env.locals h (fun y => if y = PySem.Str.ofString "" then u y else kstB (fun z => if stored.contains z then u z else m₀ z) (ps c) y) → News h₀ env.locals h (Led c) → Q .next { s with heap := h, toks := tk }) :
    wpAny (model prog w) A (pyIter (.ref l)) (fun it s₂ => TurnsAt prog w A h₀ env target body Q E it s₂) E s := by
  have ho := (N _ (hl c₀)).1
  have ht : s.heap.IsList l vs.toArray := ⟨_, ho, rfl, nn, rfl⟩
  have hne : l ≠ s.heap.objs.size := Nat.ne_of_lt (Heap.lt_size ho)
  refine wpAny_pyIter_list ht ?_
  refine turnsSrc (s := { s with heap := s.heap.push _ }) Led ps stored P c₀ (KTurns.ofWalks (Walks.list (prog := prog) (w := w) hh s.heap.objs.size l hne vs.toArray) fun i v s Q E st q => letGo_listiter st.1 q)
    (fun b hb => (List.mem_cons.mp hb).imp id fun e => ⟨listOf vs.toArray nn, by obtain rfl := List.mem_singleton.mp e; exact hl⟩) (.head _) (fun i h st => let ⟨⟨o, ho, _⟩, _⟩ := st; ⟨o, ho⟩) (F.push _)
    (fun p hp => ⟨Heap.get?_push_of_some _ (N p hp).1, (N p hp).2⟩) (next_is_new F) (fun e => absurd F.ns.lt (e ▸ Nat.lt_irrefl _)) (fun p hp e => absurd (Heap.lt_size (N p hp).1) (e ▸ Nat.lt_irrefl _))
    ⟨⟨_, Heap.get?_push_size _ rfl, rfl, rfl⟩, ht.at fun o e => Heap.get?_push_of_some _ e⟩ hk hp (fun i v c u h tk own hi hv => turn i v c u h tk own (by simpa using hv)) fun c u h tk hP => done c u h tk (by simpa using hP)
end
def preS : Str := PySem.Str.ofString "_OSX_SUPPORT_INITIAL_"
def saveC (c : Cfg) (cv : Str) (v : PyData) : Cfg :=
  putC (if PyData.eqv ((getC c cv).getD (.str (PySem.Str.ofString ""))) v = false ∧ hasC c (preS ++ cv) = false then putC c (preS ++ cv) ((getC c cv).getD (.str (PySem.Str.ofString ""))) else c) cv v
def keepC (p : Str × PyData) : Bool := !Txt.startswith p.1 preS
def remC (c : Cfg) (i : Nat) : Cfg := (c.take i).filter keepC ++ c.drop i
theorem remC_step {c : Cfg} {i : Nat} {k : Str} {dv : PyData} (hi : c[i]? = some (k, dv)) : c.drop i = (k, dv) :: c.drop (i + 1) ∧ c.take (i + 1) = c.take i ++ [(k, dv)] := by
  obtain ⟨hl, he⟩ := List.getElem?_eq_some_iff.mp hi
  exact ⟨by rw [List.drop_eq_getElem_cons hl, he], by rw [List.take_add_one, hi]; rfl⟩
theorem remC_keep {c : Cfg} {i : Nat} {k : Str} {dv : PyData} (hi : c[i]? = some (k, dv)) (h : Txt.startswith k preS = false) : remC c (i + 1) = remC c i := by
  obtain ⟨h1, h2⟩ := remC_step hi
  unfold remC
  rw [h1, h2, List.filter_append, List.append_assoc]
  simp [keepC, h]
theorem remC_has {c : Cfg} {i : Nat} {k : Str} {dv : PyData} (hi : c[i]? = some (k, dv)) : hasC (remC c i) k = true := by
  obtain ⟨h1, _⟩ := remC_step hi
  unfold remC hasC
  rw [h1]
  simp
theorem remC_del {c : Cfg} {i : Nat} {k : Str} {dv : PyData} (hi : c[i]? = some (k, dv)) (hn : (c.map (·.1)).Nodup) (h : Txt.startswith k preS = true) : delC (remC c i) k = remC c (i + 1) := by
  obtain ⟨h1, h2⟩ := remC_step hi
  have e : c = c.take i ++ (k, dv) :: c.drop (i + 1) := by rw [← h1, List.take_append_drop]
  rw [e, List.map_append, List.map_cons, List.nodup_append] at hn
  obtain ⟨_, n2, n3⟩ := hn
  have a1 : ∀ p ∈ c.take i, p.1 ≠ k := fun p hp => n3 _ (List.mem_map_of_mem hp) k (.head _)
  have a2 : ∀ p ∈ c.drop (i + 1), p.1 ≠ k := fun p hp hk => (List.nodup_cons.mp n2).1 (by rw [← hk]; exact List.mem_map_of_mem (f := (·.1)) hp)
  unfold remC delC
  rw [h1, h2, List.filter_append, List.filter_append, List.filter_cons]
  simp only [decide_true, Bool.not_true, Bool.false_eq_true, if_false, keepC, List.filter_cons, h, List.filter_nil, List.append_nil]
  congr 1
  · refine List.filter_eq_self.mpr fun p hp => ?_
    have := a1 p (List.mem_filter.mp hp).1
    simp [this]
  · refine List.filter_eq_self.mpr fun p hp => ?_
    simp [a2 p hp]
theorem remC_length (c : Cfg) (i : Nat) : (remC c i).length ≤ c.length := by
  unfold remC
  rw [List.length_append, List.length_drop]
  have := List.length_filter_le keepC (c.take i)
  rw [List.length_take] at this
  omega
theorem remC_all (c : Cfg) : remC c c.length = c.filter keepC := by
  unfold remC
  rw [List.take_length, List.drop_length, List.append_nil]
theorem saveC_same {c : Cfg} {cv : Str} {v : PyData} (h : PyData.eqv ((getC c cv).getD (.str (PySem.Str.ofString ""))) v = true) : saveC c cv v = putC c cv v := by
  unfold saveC; rw [if_neg (by rw [h]; simp)]
theorem saveC_had {c : Cfg} {cv : Str} {v : PyData} (h : hasC c (preS ++ cv) = true) : saveC c cv v = putC c cv v := by
  unfold saveC; rw [if_neg (by rw [h]; simp)]
theorem saveC_new {c : Cfg} {cv : Str} {v : PyData} (h1 : PyData.eqv ((getC c cv).getD (.str (PySem.Str.ofString ""))) v = false) (h2 : hasC c (preS ++ cv) = false) : saveC c cv v = putC (putC c (preS ++ cv) ((getC c cv).getD (.str (PySem.Str.ofString "")))) cv v := by
  unfold saveC; rw [if_pos ⟨h1, h2⟩]
def nmS (i : Int) : Str := if i = 0 then PySem.Str.ofString "CC" else PySem.Str.ofString "CXX"
def vlS (i : Int) : PyData := .str (if i = 0 then PySem.Str.ofString "a" else if i = 1 then PySem.Str.ofString "b" else PySem.Str.ofString "")
theorem vlS_shaped (i : Int) : SeqAt.shaped (vlS i) = true := by
  unfold vlS
  split
  · decide +kernel
  · split <;> decide +kernel
theorem menuV {prog : Program} {w : World} {A : Around} {E : Value → Shared → Prop} {s : Shared} {h₀ : Heap} {L l : Addr} {news : List (Addr × Obj)} {n : Nat} {ta tb tc u : Tok} {i : Int} {value slice : PySem.Expr} {Q : Value → Shared → Prop}
    (N : News h₀ L s.heap news) (hm : (l, ({ cls := .type "tuple", data := .seq #[.str (PySem.Str.ofString "a") ta, .str (PySem.Str.ofString "b") tb, .str (PySem.Str.ofString "") tc] n } : Obj)) ∈ news) (h0 : 0 ≤ i) (h2 : i ≤ 2)
    (h : ∀ v, Flat v (vlS i) → SeqAt.shaped (vlS i) = true → Q v s)
    (hs : subscripted slice false (.ref l) (.int i u) = operate [.ref l, .int i u] (getItem (.ref l) (.int i u)) := by with_unfolding_all rfl) : wpAny (model prog w) A (subscriptTail value slice (.ref l) (.int i u)) Q E s := by
  have hi : i = 0 ∨ i = 1 ∨ i = 2 := by omega
  have ht := News.isTup N hm
  have hsh := vlS_shaped i
  rcases hi with rfl | rfl | rfl
  · exact item_tupleT (l := [.str (PySem.Str.ofString "a") ta, .str (PySem.Str.ofString "b") tb, .str (PySem.Str.ofString "") tc]) ht (by decide) (by decide) (j := 0) rfl rfl (h _ (Flat.str _ _) hsh) hs
  · exact item_tupleT (l := [.str (PySem.Str.ofString "a") ta, .str (PySem.Str.ofString "b") tb, .str (PySem.Str.ofString "") tc]) ht (by decide) (by decide) (j := 1) rfl rfl (h _ (Flat.str _ _) hsh) hs
  · exact item_tupleT (l := [.str (PySem.Str.ofString "a") ta, .str (PySem.Str.ofString "b") tb, .str (PySem.Str.ofString "") tc]) ht (by decide) (by decide) (j := 2) rfl rfl (h _ (Flat.str _ _) hsh) hs
def stepC (c : Cfg) (x : Int) : Cfg := if x = 6 then c.filter keepC else saveC c (nmS (x / 3)) (vlS (x % 3))
def goC (c : Cfg) (run : List Int) : Cfg := run.foldl stepC c
theorem saveC_length (c : Cfg) (k : Str) (v : PyData) : (saveC c k v).length ≤ c.length + 2 := by
  unfold saveC
  refine Nat.le_trans (putC_length _ _ _) ?_
  split
  · have := putC_length c (preS ++ k) ((getC c k).getD (.str (PySem.Str.ofString "")))
    omega
  · omega
theorem stepC_length (c : Cfg) (x : Int) : (stepC c x).length ≤ c.length + 2 := by
  unfold stepC
  split
  · have := List.length_filter_le keepC c
    omega
  · exact saveC_length _ _ _
theorem goC_snoc (c : Cfg) {run : List Int} {i : Nat} {x : Int} (h : run[i]? = some x) : goC c (run.take (i + 1)) = stepC (goC c (run.take i)) x := by
  unfold goC
  rw [List.take_add_one, h]
  simp
theorem goC_length (c : Cfg) (run : List Int) : (goC c run).length ≤ c.length + 2 * run.length := by
  unfold goC
  induction run generalizing c with
  | nil => simp
  | cons x r ih =>
    rw [List.foldl_cons, List.length_cons]
    have h1 := ih (stepC c x)
    have h2 := stepC_length c x
    omega
def baseC : Cfg := [(PySem.Str.ofString "LDSHARED", .str (PySem.Str.ofString "x"))]
def putStep (c : Cfg) (i v k : Int) : Cfg :=
  if 0 ≤ k then putC (if 0 ≤ v then putC c (nmS i) (vlS v) else c) (preS ++ nmS i) (vlS k) else if 0 ≤ v then putC c (nmS i) (vlS v) else c
def putCfg (v1 k1 v2 k2 : Int) : Cfg := putStep (putStep baseC 0 v1 k1) 1 v2 k2
def putI (v1 k1 v2 k2 : Int) : Nat → Cfg
  | 0 => baseC
  | 1 => putStep baseC 0 v1 k1
  | _ => putCfg v1 k1 v2 k2
theorem putStep_length (c : Cfg) (i v k : Int) : (putStep c i v k).length ≤ c.length + 2 := by
  unfold putStep
  have h1 := putC_length c (nmS i) (vlS v)
  split
  · split
    · exact Nat.le_trans (putC_length _ _ _) (by omega)
    · exact Nat.le_trans (putC_length _ _ _) (by omega)
  · split <;> omega
theorem putI_length (v1 k1 v2 k2 : Int) (i : Nat) : (putI v1 k1 v2 k2 i).length ≤ 5 := by
  have h0 : baseC.length = 1 := rfl
  have h1 := putStep_length baseC 0 v1 k1
  have h2 := putStep_length (putStep baseC 0 v1 k1) 1 v2 k2
  rcases i with _ | _ | i
  · show baseC.length ≤ 5; omega
  · show (putStep baseC 0 v1 k1).length ≤ 5; omega
  · show (putStep (putStep baseC 0 v1 k1) 1 v2 k2).length ≤ 5; omega
def cutI (run : List Int) : Nat → Int
  | 0 => -1
  | i + 1 => if run.getD i 0 = 6 then (i : Int) else cutI run i
def pickOf (xs : List Int) (w : Int) : List Int := (xs.filter (fun a => a.fdiv 3 == w)).map (fun a => a.fmod 3)
def lastOf (xs : List Int) : List Int := xs.drop (xs.length - 1)
def earlyOf (run : List Int) (w : Int) : List Int := lastOf (pickOf (run.take (cutI run run.length + 1).toNat) w)
def lateOf (run : List Int) (w : Int) : List Int := pickOf (run.drop (cutI run run.length + 1).toNat) w
theorem cutI_ge (run : List Int) : ∀ n, -1 ≤ cutI run n
  | 0 => by unfold cutI; omega
  | n + 1 => by
    unfold cutI
    split
    · omega
    · exact cutI_ge run n
def shortRow (w : Int) (x y : List Int) : List Int :=
  if ¬ x ++ y = (List.replicate (x.length + y.length) (lastOf (x ++ y))).flatten then (if x = [] ∨ x = lastOf (x ++ y) then [3 * w + ((lastOf (x ++ y)).getD 0 0 + 1).fmod 3, 3 * w + (lastOf (x ++ y)).getD 0 0] else [3 * w + (lastOf (x ++ y)).getD 0 0])
  else if 0 < x.length + y.length ∧ x = [] then [3 * w + (lastOf (x ++ y)).getD 0 0] else []
section
variable {w : Int} {x y : List Int}
theorem shortRow_a (h : ¬ x ++ y = (List.replicate (x.length + y.length) (lastOf (x ++ y))).flatten) (h2 : x = [] ∨ x = lastOf (x ++ y)) : shortRow w x y = [3 * w + ((lastOf (x ++ y)).getD 0 0 + 1).fmod 3, 3 * w + (lastOf (x ++ y)).getD 0 0] := by
  unfold shortRow; rw [if_pos h, if_pos h2]
theorem shortRow_b (h : ¬ x ++ y = (List.replicate (x.length + y.length) (lastOf (x ++ y))).flatten) (h1 : ¬ x = []) (h2 : ¬ x = lastOf (x ++ y)) : shortRow w x y = [3 * w + (lastOf (x ++ y)).getD 0 0] := by
  unfold shortRow; rw [if_pos h, if_neg (fun e => e.elim h1 h2)]
theorem shortRow_c (h : x ++ y = (List.replicate (x.length + y.length) (lastOf (x ++ y))).flatten) (h1 : 0 < x.length + y.length) (h2 : x = []) : shortRow w x y = [3 * w + (lastOf (x ++ y)).getD 0 0] := by
  unfold shortRow; rw [if_neg (fun e => e h), if_pos ⟨h1, h2⟩]
theorem shortRow_d (h : x ++ y = (List.replicate (x.length + y.length) (lastOf (x ++ y))).flatten) (h1 : ¬ 0 < x.length + y.length) : shortRow w x y = [] := by
  unfold shortRow; rw [if_neg (fun e => e h), if_neg (fun e => h1 e.1)]
theorem shortRow_e (h : x ++ y = (List.replicate (x.length + y.length) (lastOf (x ++ y))).flatten) (h2 : ¬ x = []) : shortRow w x y = [] := by
  unfold shortRow; rw [if_neg (fun e => e h), if_neg (fun e => h2 e.2)]
end
theorem ints_one {c : List Value} {b : List Int} {a : Int} {t : Tok} (h : IntsAre c b) : IntsAre (c ++ [.int a t]) (b ++ [a]) := IntsAre.append h (IntsAre.cons _ _ IntsAre.nil)
theorem ints_two {c : List Value} {b : List Int} {a a' : Int} {t t' : Tok} (h : IntsAre c b) : IntsAre ((c ++ [.int a t]) ++ [.int a' t']) (b ++ [a, a']) := by
  have := ints_one (a := a') (t := t') (ints_one (a := a) (t := t) h)
  rwa [List.append_assoc b] at this
def headOf (x0 x1 : List Int) : Nat → List Int
  | 0 => []
  | 1 => x0.map fun v => 3 * 0 + v
  | _ => (x0.map fun v => 3 * 0 + v) ++ x1.map fun v => 3 * 1 + v
def bodyOf (b x0 y0 x1 y1 : List Int) : Nat → List Int
  | 0 => b
  | 1 => b ++ shortRow 0 x0 y0
  | _ => (b ++ shortRow 0 x0 y0) ++ shortRow 1 x1 y1
theorem shortRow_len (w : Int) (x y : List Int) : (shortRow w x y).length ≤ 2 := by
  unfold shortRow
  split
  · split <;> simp
  · split <;> simp
def shortOf (off : Bool) (x0 x1 y0 y1 : List Int) : List Int :=
  bodyOf (if off = true then ((x0.map fun v => 3 * 0 + v) ++ x1.map fun v => 3 * 1 + v) ++ [6] else (x0.map fun v => 3 * 0 + v) ++ x1.map fun v => 3 * 1 + v) x0 y0 x1 y1 2
def toldStood (v : Int) (x : List Int) : Int := x.foldl (fun _ n => n) v
def toldFix (s : Int) : Int := if s < 0 then 2 else s
def toldRow (off : Bool) (v k : Int) (x y : List Int) : Int × Int :=
  if y = [] then (toldStood v x, if off = true then -1 else k)
  else (y.getD (y.length - 1) 0, if (if off = true then -1 else k) < 0 ∧ ¬ y = (List.replicate y.length [toldFix (toldStood v x)]).flatten then toldFix (toldStood v x) else if off = true then -1 else k)
def baseS (b : Int) : Str := if b = 0 then PySem.Str.ofString "CC" else if b = 1 then PySem.Str.ofString "" else if b = 2 then PySem.Str.ofString "_OSX_SUPPORT_INITIAL" else PySem.Str.ofString "a_OSX_SUPPORT_INITIAL_"
def nameS (b l : Int) : Str := Txt.mul preS l ++ baseS b
def valD (i : Int) : PyData := if i = 0 then .str (PySem.Str.ofString "a") else if i = 1 then .str (PySem.Str.ofString "") else if i = 2 then .str (PySem.Str.ofString "b") else if i = 3 then .int 1 else if i = 4 then .bool true else if i = 5 then .int 0 else .none
theorem valD_shaped (i : Int) : SeqAt.shaped (valD i) = true := by
  unfold valD
  repeat' split
  all_goals decide +kernel
section
variable {prog : Program} {w : World} {A : Around} {E : Value → Shared → Prop} {s : Shared} {h₀ : Heap} {L l : Addr} {news : List (Addr × Obj)} {n : Nat} {i : Int} {u : Tok} {value slice : PySem.Expr} {Q : Value → Shared → Prop}
theorem menuB {ta tb tc td : Tok}
    (N : News h₀ L s.heap news) (hm : (l, ({ cls := .type "tuple", data := .seq #[.str (PySem.Str.ofString "CC") ta, .str (PySem.Str.ofString "") tb, .str (PySem.Str.ofString "_OSX_SUPPORT_INITIAL") tc, .str (PySem.Str.ofString "a_OSX_SUPPORT_INITIAL_") td] n } : Obj)) ∈ news) (h0 : 0 ≤ i) (h3 : i ≤ 3)
    (h : ∀ t, Q (.str (baseS i) t) s)
    (hs : subscripted slice false (.ref l) (.int i u) = operate [.ref l, .int i u] (getItem (.ref l) (.int i u)) := by with_unfolding_all rfl) : wpAny (model prog w) A (subscriptTail value slice (.ref l) (.int i u)) Q E s := by
  have hi : i = 0 ∨ i = 1 ∨ i = 2 ∨ i = 3 := by omega
  have ht := News.isTup N hm
  rcases hi with rfl | rfl | rfl | rfl
  · exact item_tupleT (l := [_, _, _, _]) ht (by decide) (by decide) (j := 0) rfl rfl (h _) hs
  · exact item_tupleT (l := [_, _, _, _]) ht (by decide) (by decide) (j := 1) rfl rfl (h _) hs
  · exact item_tupleT (l := [_, _, _, _]) ht (by decide) (by decide) (j := 2) rfl rfl (h _) hs
  · exact item_tupleT (l := [_, _, _, _]) ht (by decide) (by decide) (j := 3) rfl rfl (h _) hs
theorem menuD {ta tb tc td te : Tok}
    (N : News h₀ L s.heap news) (hm : (l, ({ cls := .type "tuple", data := .seq #[.str (PySem.Str.ofString "a") ta, .str (PySem.Str.ofString "") tb, .str (PySem.Str.ofString "b") tc, .int 1 td, .bool true, .int 0 te, .none] n } : Obj)) ∈ news) (h0 : 0 ≤ i) (h3 : i ≤ 6)
    (h : ∀ v, Flat v (valD i) → Q v s)
    (hs : subscripted slice false (.ref l) (.int i u) = operate [.ref l, .int i u] (getItem (.ref l) (.int i u)) := by with_unfolding_all rfl) : wpAny (model prog w) A (subscriptTail value slice (.ref l) (.int i u)) Q E s := by
  have hi : i = 0 ∨ i = 1 ∨ i = 2 ∨ i = 3 ∨ i = 4 ∨ i = 5 ∨ i = 6 := by omega
  have ht := News.isTup N hm
  rcases hi with rfl | rfl | rfl | rfl | rfl | rfl | rfl
  · exact item_tupleT (l := [_, _, _, _, _, _, _]) ht (by decide) (by decide) (j := 0) rfl rfl (h _ (Flat.str _ _)) hs
  · exact item_tupleT (l := [_, _, _, _, _, _, _]) ht (by decide) (by decide) (j := 1) rfl rfl (h _ (Flat.str _ _)) hs
  · exact item_tupleT (l := [_, _, _, _, _, _, _]) ht (by decide) (by decide) (j := 2) rfl rfl (h _ (Flat.str _ _)) hs
  · exact item_tupleT (l := [_, _, _, _, _, _, _]) ht (by decide) (by decide) (j := 3) rfl rfl (h _ (Flat.int _ _)) hs
  · exact item_tupleT (l := [_, _, _, _, _, _, _]) ht (by decide) (by decide) (j := 4) rfl rfl (h _ (Flat.bool _)) hs
  · exact item_tupleT (l := [_, _, _, _, _, _, _]) ht (by decide) (by decide) (j := 5) rfl rfl (h _ (Flat.int _ _)) hs
  · exact item_tupleT (l := [_, _, _, _, _, _, _]) ht (by decide) (by decide) (j := 6) rfl rfl (h _ Flat.none) hs
theorem mul_pre {t t2 : Tok} {n : Int} (h0 : 0 ≤ n) (h5 : n ≤ 5) (h : ∀ t' k', Q (.str (Txt.mul preS n) t') { s with toks := k' }) : wpAny (model prog w) A (binaryOp .Mult (.str preS t) (.int n t2)) Q E s :=
  SB.mul (mulOk_of 32 5 (by decide +kernel) h5 (by omega) (by decide) (by decide)) fun t' k' => h t' k'
end
theorem mul_len {n : Int} (h0 : 0 ≤ n) (h5 : n ≤ 5) : (Txt.mul preS n).length ≤ 200 := by
  have hi : n = 0 ∨ n = 1 ∨ n = 2 ∨ n = 3 ∨ n = 4 ∨ n = 5 := by omega
  rcases hi with rfl | rfl | rfl | rfl | rfl | rfl <;> decide +kernel
theorem baseS_len (b : Int) : (baseS b).length ≤ 200 := by
  unfold baseS
  repeat' split
  all_goals decide +kernel
theorem mul_succ {l : Int} (h0 : 0 ≤ l) (h4 : l ≤ 4) : Txt.mul preS (l + 1) = preS ++ Txt.mul preS l := by
  have hi : l = 0 ∨ l = 1 ∨ l = 2 ∨ l = 3 ∨ l = 4 := by omega
  rcases hi with rfl | rfl | rfl | rfl | rfl <;> decide +kernel
theorem pre_name {b l : Int} (h0 : 0 ≤ l) (h4 : l ≤ 4) : preS ++ nameS b l = nameS b (l + 1) := by
  unfold nameS
  rw [mul_succ h0 h4]
  exact (PySem.Str.append_assoc _ _ _).symm
theorem name_start {b l : Int} (hb : 0 ≤ b ∧ b ≤ 3) (h0 : 0 ≤ l) (h4 : l ≤ 5) : Txt.startswith (nameS b l) preS = decide (0 < l) := by
  have hi : l = 0 ∨ l = 1 ∨ l = 2 ∨ l = 3 ∨ l = 4 ∨ l = 5 := by omega
  have hj : b = 0 ∨ b = 1 ∨ b = 2 ∨ b = 3 := by omega
  rcases hi with rfl | rfl | rfl | rfl | rfl | rfl <;> rcases hj with rfl | rfl | rfl | rfl <;> decide +kernel
def lenB (b : Int) : Nat := if b = 0 then 2 else if b = 1 then 0 else if b = 2 then 20 else 22
theorem base_length (b : Int) : (baseS b).length = lenB b := by
  unfold baseS lenB
  repeat' split
  all_goals decide +kernel
theorem mul_length {l : Int} (h0 : 0 ≤ l) (h5 : l ≤ 5) : (Txt.mul preS l).length = (21 * l).toNat := by
  have hi : l = 0 ∨ l = 1 ∨ l = 2 ∨ l = 3 ∨ l = 4 ∨ l = 5 := by omega
  rcases hi with rfl | rfl | rfl | rfl | rfl | rfl <;> decide +kernel
/-- a name is known by its length -/
theorem name_eq {b c k l : Int} (hb : 0 ≤ b ∧ b ≤ 3) (hc : 0 ≤ c ∧ c ≤ 3) (hk : 0 ≤ k ∧ k ≤ 5) (hl : 0 ≤ l ∧ l ≤ 5) (h : nameS b k = nameS c l) : b = c ∧ k = l := by
  have e := congrArg PySem.Str.length h
  unfold nameS at e
  rw [PySem.Str.length_append, PySem.Str.length_append, mul_length hk.1 hk.2, mul_length hl.1 hl.2, base_length, base_length] at e
  have hb4 : b = 0 ∨ b = 1 ∨ b = 2 ∨ b = 3 := by omega
  have hc4 : c = 0 ∨ c = 1 ∨ c = 2 ∨ c = 3 := by omega
  rcases hb4 with rfl | rfl | rfl | rfl <;> rcases hc4 with rfl | rfl | rfl | rfl <;> simp [lenB] at e <;> omega
theorem cont_cons {a z : Str} {l : List Str} (h : (a :: l).contains z = false) : z ≠ a ∧ l.contains z = false := by
  rw [List.contains_cons, Bool.or_eq_false_iff] at h
  exact ⟨by simpa using h.1, h.2⟩
theorem cont_one {a z : Str} (h : z ≠ a) : [a].contains z = false := by
  rw [List.contains_cons, Bool.or_eq_false_iff]
  exact ⟨by simpa using h, rfl⟩
theorem kstO {x : Str} {a : Option Value} {stored : List Str} {u m₀ : Str → Option Value} {n : Str} {v : Value} {z : Str} (h1 : z ≠ x) (h2 : z ≠ n) (h3 : stored.contains z = false) :
    (if z = x then a else kstB (fun z => if stored.contains z then u z else m₀ z) [(n, v)] z) = m₀ z := by
  rw [if_neg h1]
  simp only [kstB, h2, if_false, h3, Bool.false_eq_true]
theorem kstN {x : Str} {a : Option Value} {stored : List Str} {u m₀ : Str → Option Value} {z : Str} (h1 : z ≠ x) (h3 : stored.contains z = false) :
    (if z = x then a else kstB (fun z => if stored.contains z then u z else m₀ z) [] z) = m₀ z := by
  rw [if_neg h1]
  simp only [kstB, if_false, h3, Bool.false_eq_true]
theorem kst0 {u m : Str → Option Value} {z : Str} : kstB (fun z => if ([] : List Str).contains z then u z else m z) [] z = m z := rfl
theorem kst1 {f : Str → Option Value} {n z : Str} {v : Value} (h : z ≠ n) : kstB f [(n, v)] z = f z := if_neg h
theorem kstE {a b : Option Value} {z : Str} : (if ([] : List Str).contains z = true then a else b) = b := rfl
section
variable {prog : Program} {w : World} {A : Around} {E : Value → Shared → Prop} {s : Shared} {h₀ : Heap} {L l : Addr} {news : List (Addr × Obj)}
theorem item_at {vs : List Value} {v : Value} {i : Nat} {z : Int} {u : Tok} {value slice : PySem.Expr} {Q : Value → Shared → Prop}
    (N : News h₀ L s.heap news) (hm : ∃ n, (l, listOf vs.toArray n) ∈ news) (hv : vs[i]? = some v) (hz : z = (i : Int)) (hb : z < 2 ^ 63) (h : Q v s)
    (hs : subscripted slice false (.ref l) (.int z u) = operate [.ref l, .int z u] (getItem (.ref l) (.int z u)) := by with_unfolding_all rfl) : wpAny (model prog w) A (subscriptTail value slice (.ref l) (.int z u)) Q E s := by
  obtain ⟨n, hm⟩ := hm
  have hl : s.heap.IsList l vs.toArray := ⟨_, (N _ hm).1, rfl, n, rfl⟩
  refine tail_any hl.typeIs slot_list_getitem.lookup (wpAny_getItem_list hl (by omega) hb (x := v) ?_ h) hs
  rw [hz]
  simpa using hv
end
abbrev Row3 := Int × Int × PyData
abbrev tup3 (b l : Int) (v : Value) (t t' : Tok) (n : Nat) : Obj := { cls := .type "tuple", data := .seq #[.int b t, .int l t', v] n }
/-- a list of made tuples (base, layer, value) -/
def RowsAt (news : List (Addr × Obj)) (rs : List Value) (S : List Row3) : Prop :=
  rs.length = S.length ∧ ∀ (i : Nat) (v : Value), rs[i]? = some v → ∃ a b l u t t' n dv, v = .ref a ∧ (a, tup3 b l u t t' n) ∈ news ∧ S[i]? = some (b, l, dv) ∧ Flat u dv ∧ SeqAt.shaped dv = true
theorem RowsAt.sub {news news' : List (Addr × Obj)} {rs : List Value} {S : List Row3} (h : RowsAt news rs S) (hs : ∀ p ∈ news, p ∈ news') : RowsAt news' rs S :=
  ⟨h.1, fun i v hv => let ⟨a, b, l, u, t, t', n, dv, e, m, r⟩ := h.2 i v hv; ⟨a, b, l, u, t, t', n, dv, e, hs _ m, r⟩⟩
abbrev Res := Option ((Int × Int) × PyData)
def iniR (S : List Row3) (base layer : Int) : Nat → Res
  | 0 => none
  | i + 1 => match S[i]? with
    | some (b, l, v) => if b = base ∧ l = layer then some ((-1, (i : Int)), v) else iniR S base layer i
    | none => iniR S base layer i
abbrev emptyD : PyData := .str (PySem.Str.ofString "")
def stepR (base layer : Int) (prev : Nat → Res) (R : List Row3) (acc : Res) (i : Nat) : Res :=
  match R[i]? with
  | none => acc
  | some (who, deep, v) =>
    if who < 0 then (if 0 < layer then none else acc)
    else if who = base ∧ deep = layer then (match acc with | some (k, _) => some (k, v) | none => some (((i : Int), 1), v))
    else if who = base ∧ deep + 1 = layer ∧ acc.isNone = true then
      (let ahead := match prev i with | none => emptyD | some (_, x) => x
       if PyData.eqv ahead v = false then some (((i : Int), 0), ahead) else none)
    else acc
def loopRes (S R : List Row3) (base layer : Int) (prev : Nat → Res) : Nat → Res
  | 0 => iniR S base layer S.length
  | i + 1 => stepR base layer prev R (loopRes S R base layer prev i) i
def story (S R : List Row3) (base : Int) : Nat → Nat → Res
  | 0 => loopRes S R base 0 fun _ => none
  | k + 1 => loopRes S R base ((k : Int) + 1) (story S R base k)
/-- what found holds -/
def FoundAt (lF : Addr) (ex : List (Addr × Obj)) : Res → Prop
  | none => ∃ n, ex = [(lF, listOf #[] n)]
  | some ((x, y), dv) => ∃ p v n t t' k, ex = [(lF, listOf #[.ref p, v] n), (p, { cls := .type "tuple", data := .seq #[.int x t, .int y t'] k })] ∧ Flat v dv ∧ SeqAt.shaped dv = true
theorem off_new2 {own base : List (Addr × Obj)} {a d : Addr} {oa od : Obj} (ha : ∀ p ∈ own, p.1 ≠ a) (hd : ∀ p ∈ own, p.1 ≠ d) (hb : OwnOff own (base.map (·.1))) : OwnOff own (([(a, oa), (d, od)] ++ base).map (·.1)) := by
  intro p hp b hb'
  simp only [List.map_cons, List.cons_append, List.nil_append, List.mem_cons] at hb'
  rcases hb' with rfl | rfl | hb'
  · exact ha p hp
  · exact hd p hp
  · exact hb p hp b hb'
theorem off_new1 {own base : List (Addr × Obj)} {a : Addr} {oa : Obj} (ha : ∀ p ∈ own, p.1 ≠ a) (hb : OwnOff own (base.map (·.1))) : OwnOff own (([(a, oa)] ++ base).map (·.1)) := by
  intro p hp b hb'
  simp only [List.map_cons, List.cons_append, List.nil_append, List.mem_cons] at hb'
  rcases hb' with rfl | hb'
  · exact ha p hp
  · exact hb p hp b hb'
theorem off_base {own ex base : List (Addr × Obj)} (h : OwnOff own ((ex ++ base).map (·.1))) : OwnOff own (base.map (·.1)) := fun p hp b hb => h p hp b (by rw [List.map_append]; exact List.mem_append_right _ hb)
theorem iniR_no {S : List Row3} {base layer b l : Int} {v : PyData} {i : Nat} (h : S[i]? = some (b, l, v)) (hn : ¬ (b = base ∧ l = layer)) : iniR S base layer (i + 1) = iniR S base layer i := by
  show (match S[i]? with | some (b, l, v) => if b = base ∧ l = layer then some ((-1, (i : Int)), v) else iniR S base layer i | none => iniR S base layer i) = _
  rw [h]; exact if_neg hn
theorem iniR_yes {S : List Row3} {base layer b l : Int} {v : PyData} {i : Nat} (h : S[i]? = some (b, l, v)) (hn : b = base ∧ l = layer) : iniR S base layer (i + 1) = some ((-1, (i : Int)), v) := by
  show (match S[i]? with | some (b, l, v) => if b = base ∧ l = layer then some ((-1, (i : Int)), v) else iniR S base layer i | none => iniR S base layer i) = _
  rw [h]; exact if_pos hn
section
variable {base layer who deep : Int} {v : PyData} {prev : Nat → Res} {R : List Row3} {acc : Res} {i : Nat}
theorem stepR_eq (h : R[i]? = some (who, deep, v)) : stepR base layer prev R acc i = (if who < 0 then (if 0 < layer then none else acc)
    else if who = base ∧ deep = layer then (match acc with | some (k, _) => some (k, v) | none => some (((i : Int), 1), v))
    else if who = base ∧ deep + 1 = layer ∧ acc.isNone = true then
      (let ahead := match prev i with | none => emptyD | some (_, x) => x
       if PyData.eqv ahead v = false then some (((i : Int), 0), ahead) else none)
    else acc) := by unfold stepR; rw [h]
theorem stepR_a (h : R[i]? = some (who, deep, v)) (h1 : who < 0) (h2 : 0 < layer) : stepR base layer prev R acc i = none := by rw [stepR_eq h, if_pos h1, if_pos h2]
theorem stepR_b (h : R[i]? = some (who, deep, v)) (h1 : who < 0) (h2 : ¬ 0 < layer) : stepR base layer prev R acc i = acc := by rw [stepR_eq h, if_pos h1, if_neg h2]
theorem stepR_c (h : R[i]? = some (who, deep, v)) (h1 : ¬ who < 0) (h2 : who = base) (h3 : deep = layer) : stepR base layer prev R none i = some (((i : Int), 1), v) := by rw [stepR_eq h, if_neg h1, if_pos ⟨h2, h3⟩]
theorem stepR_d {k : Int × Int} {x : PyData} (h : R[i]? = some (who, deep, v)) (h1 : ¬ who < 0) (h2 : who = base) (h3 : deep = layer) : stepR base layer prev R (some (k, x)) i = some (k, v) := by rw [stepR_eq h, if_neg h1, if_pos ⟨h2, h3⟩]
theorem stepR_e (h : R[i]? = some (who, deep, v)) (h1 : ¬ who < 0) (h2 : who ≠ base) : stepR base layer prev R acc i = acc := by rw [stepR_eq h, if_neg h1, if_neg (fun e => h2 e.1), if_neg (fun e => h2 e.1)]
theorem stepR_f (h : R[i]? = some (who, deep, v)) (h1 : ¬ who < 0) (h3 : deep ≠ layer) (h4 : deep + 1 ≠ layer) : stepR base layer prev R acc i = acc := by rw [stepR_eq h, if_neg h1, if_neg (fun e => h3 e.2), if_neg (fun e => h4 e.2.1)]
theorem stepR_g {x : (Int × Int) × PyData} (h : R[i]? = some (who, deep, v)) (h1 : ¬ who < 0) (h3 : deep ≠ layer) : stepR base layer prev R (some x) i = some x := by rw [stepR_eq h, if_neg h1, if_neg (fun e => h3 e.2), if_neg (fun e => Bool.false_ne_true e.2.2)]
theorem stepR_in (h : R[i]? = some (who, deep, v)) (h1 : ¬ who < 0) (h2 : who = base) (h3 : deep ≠ layer) (h4 : deep + 1 = layer) : stepR base layer prev R none i = (let ahead := match prev i with | none => emptyD | some (_, x) => x
       if PyData.eqv ahead v = false then some (((i : Int), 0), ahead) else none) := by rw [stepR_eq h, if_neg h1, if_neg (fun e => h3 e.2), if_pos ⟨h2, h4, rfl⟩]
theorem stepR_h (h : R[i]? = some (who, deep, v)) (h1 : ¬ who < 0) (h2 : who = base) (h3 : deep ≠ layer) (h4 : deep + 1 = layer) (hp : prev i = none) (he : PyData.eqv emptyD v = false) : stepR base layer prev R none i = some (((i : Int), 0), emptyD) := by
  rw [stepR_in h h1 h2 h3 h4, hp]; exact if_pos he
theorem stepR_i (h : R[i]? = some (who, deep, v)) (h1 : ¬ who < 0) (h2 : who = base) (h3 : deep ≠ layer) (h4 : deep + 1 = layer) (hp : prev i = none) (he : PyData.eqv emptyD v = true) : stepR base layer prev R none i = none := by
  rw [stepR_in h h1 h2 h3 h4, hp]; exact if_neg (by rw [he]; exact Bool.noConfusion)
theorem stepR_j {q : Int × Int} {x : PyData} (h : R[i]? = some (who, deep, v)) (h1 : ¬ who < 0) (h2 : who = base) (h3 : deep ≠ layer) (h4 : deep + 1 = layer) (hp : prev i = some (q, x)) (he : PyData.eqv x v = false) : stepR base layer prev R none i = some (((i : Int), 0), x) := by
  rw [stepR_in h h1 h2 h3 h4, hp]; exact if_pos he
theorem stepR_k {q : Int × Int} {x : PyData} (h : R[i]? = some (who, deep, v)) (h1 : ¬ who < 0) (h2 : who = base) (h3 : deep ≠ layer) (h4 : deep + 1 = layer) (hp : prev i = some (q, x)) (he : PyData.eqv x v = true) : stepR base layer prev R none i = none := by
  rw [stepR_in h h1 h2 h3 h4, hp]; exact if_neg (by rw [he]; exact Bool.noConfusion)
end
theorem found_cases {lF : Addr} {ex : List (Addr × Obj)} {r : Res} (h : FoundAt lF ex r) : (∃ n, r = none ∧ ex = [(lF, listOf #[] n)]) ∨
    (∃ x y dv p v n t t' k, r = some ((x, y), dv) ∧ ex = [(lF, listOf #[.ref p, v] n), (p, { cls := .type "tuple", data := .seq #[.int x t, .int y t'] k })] ∧ Flat v dv ∧ SeqAt.shaped dv = true) := by
  rcases r with _ | ⟨⟨x, y⟩, dv⟩
  · obtain ⟨n, e⟩ := h; exact .inl ⟨n, rfl, e⟩
  · obtain ⟨p, v, n, t, t', k, e, f, sh⟩ := h; exact .inr ⟨x, y, dv, p, v, n, t, t', k, rfl, e, f, sh⟩
section
variable {g h : Heap} {L l : Addr} {news own led rest : List (Addr × Obj)}
theorem sub_news (hled : led = news ++ own) (N : News g L h rest) {ex : List (Addr × Obj)} (hx : ∀ p ∈ ex, p ∈ rest) (hs : ∀ p ∈ led, p ∈ rest) : News g L h ((ex ++ news) ++ own) := fun p hp => by
  rw [List.append_assoc, ← hled] at hp
  exact N p ((List.mem_append.mp hp).elim (hx p) (hs p))
theorem own_ne (hled : led = news ++ own) {D : Addr} (hD : AllLt D rest) (hs : ∀ p ∈ led, p ∈ rest) : ∀ q ∈ own, q.1 ≠ D := fun q hq => Nat.ne_of_lt (allLt_lt hD q (hs q (by rw [hled]; exact List.mem_append_right _ hq)))
theorem news_off (hled : led = news ++ own) {D : Addr} (hD : AllLt D rest) (hs : ∀ p ∈ led, p ∈ rest) : ∀ b ∈ news.map (·.1), @Ne Nat D b := fun b hb => by
  obtain ⟨q, hq, rfl⟩ := List.mem_map.mp hb
  exact Nat.ne_of_gt (allLt_lt hD q (hs q (by rw [hled]; exact List.mem_append_left _ hq)))
theorem off_single {l : Addr} {o : Obj} {bs : List Addr} (h : ∀ b ∈ bs, @Ne Nat l b) : OwnOff [(l, o)] bs := fun p hp b hb => by rw [List.mem_singleton.mp hp]; exact h b hb
theorem off_pair {l d : Addr} {o o' : Obj} {bs : List Addr} (h : ∀ b ∈ bs, @Ne Nat l b) (h' : ∀ b ∈ bs, @Ne Nat d b) : OwnOff [(l, o), (d, o')] bs := fun p hp b hb => by
  rcases List.mem_cons.mp hp with e | hp
  · rw [e]; exact h b hb
  · rw [List.mem_singleton.mp hp]; exact h' b hb
theorem end_empty {n : Nat} (hled : led = news ++ own) (N : News g L h ((l, listOf #[] n) :: rest)) (hl : AllLt l rest) (hs : ∀ p ∈ led, p ∈ rest) (hoff : OwnOff own (news.map (·.1))) :
    ∃ ex, (FoundAt l ex none ∧ OwnOff ex (news.map (·.1))) ∧ News g L h ((ex ++ news) ++ own) ∧ OwnOff own ((ex ++ news).map (·.1)) :=
  ⟨[(l, listOf #[] n)], ⟨⟨n, rfl⟩, off_single (news_off hled hl hs)⟩, sub_news hled N (fun p hp => by rw [List.mem_singleton.mp hp]; exact .head _) (fun p hp => .tail _ (hs p hp)), off_new1 (own_ne hled hl hs) hoff⟩
theorem end_fill {D : Addr} {v : Value} {n n2 : Nat} {x x' y : Int} {t t' : Tok} {dv : PyData} (hled : led = news ++ own) (N : News g L h ((l, listOf #[.ref D, v] n) :: rest))
    (mD : (D, ({ cls := .type "tuple", data := .seq #[.int x t, .int y t'] n2 } : Obj)) ∈ rest) (hl : AllLt l rest) (hDo : ∀ q ∈ own, q.1 ≠ D) (hDn : ∀ b ∈ news.map (·.1), @Ne Nat D b) (hs : ∀ p ∈ led, p ∈ rest) (hoff : OwnOff own (news.map (·.1))) (f : Flat v dv) (sh : SeqAt.shaped dv = true) (hx : x = x') :
    ∃ ex, (FoundAt l ex (some ((x', y), dv)) ∧ OwnOff ex (news.map (·.1))) ∧ News g L h ((ex ++ news) ++ own) ∧ OwnOff own ((ex ++ news).map (·.1)) := by
  subst hx
  refine ⟨[(l, listOf #[.ref D, v] n), (D, { cls := .type "tuple", data := .seq #[.int x t, .int y t'] n2 })], ⟨⟨D, v, n, t, t', n2, rfl, f, sh⟩, off_pair (news_off hled hl hs) hDn⟩, sub_news hled N (fun p hp => ?_) (fun p hp => .tail _ (hs p hp)), off_new2 (own_ne hled hl hs) hDo hoff⟩
  rcases List.mem_cons.mp hp with e | hp
  · rw [e]; exact .head _
  · rw [List.mem_singleton.mp hp]; exact .tail _ mD
theorem end_fill2 {D : Addr} {v : Value} {n n2 : Nat} {x x' y : Int} {t t' : Tok} {dv : PyData} (hled : led = news ++ own) (N : News g L h ((l, listOf #[.ref D, v] n) :: (D, ({ cls := .type "tuple", data := .seq #[.int x t, .int y t'] n2 } : Obj)) :: rest))
    (hl : AllLt l ((D, ({ cls := .type "tuple", data := .seq #[.int x t, .int y t'] n2 } : Obj)) :: rest)) (hD : AllLt D rest) (hs : ∀ p ∈ led, p ∈ rest) (hoff : OwnOff own (news.map (·.1))) (f : Flat v dv) (sh : SeqAt.shaped dv = true) (hx : x = x') :
    ∃ ex, (FoundAt l ex (some ((x', y), dv)) ∧ OwnOff ex (news.map (·.1))) ∧ News g L h ((ex ++ news) ++ own) ∧ OwnOff own ((ex ++ news).map (·.1)) :=
  end_fill hled N (.head _) hl (own_ne hled hD hs) (news_off hled hD hs) (fun p hp => .tail _ (hs p hp)) hoff f sh hx
end
def prevR (S R : List Row3) (base : Int) : Nat → Nat → Res
  | 0 => fun _ => none
  | d + 1 => story S R base d
theorem story_loop (S R : List Row3) (base : Int) (k u : Nat) : story S R base k u = loopRes S R base k (prevR S R base k) u := by
  cases k with
  | zero => rfl
  | succ d => rfl
theorem prevR_eq {S R : List Row3} {base : Int} {k d : Nat} (h : d + 1 = k) : prevR S R base k = story S R base d := by
  subst h; rfl
def RowOk (r : Row3) : Prop := (r.1 = -1 ∨ 0 ≤ r.1 ∧ r.1 ≤ 3) ∧ 0 ≤ r.2.1 ∧ r.2.1 ≤ 3 ∧ ∃ j, r.2.2 = valD j
theorem RowsAt.snoc {tl : List (Addr × Obj)} {rs : List Value} {S : List Row3} {a : Addr} {b l : Int} {v : Value} {t t' : Tok} {n : Nat} {dv : PyData} (h : RowsAt tl rs S) (f : Flat v dv) (sh : SeqAt.shaped dv = true) :
    RowsAt ((a, tup3 b l v t t' n) :: tl) (rs ++ [.ref a]) (S ++ [(b, l, dv)]) := by
  refine ⟨by rw [List.length_append, List.length_append, h.1]; rfl, fun i u hu => ?_⟩
  by_cases hi : i < rs.length
  · rw [List.getElem?_append_left hi] at hu
    obtain ⟨a', b', l', u', t1, t2, n', dv', e, m, r⟩ := h.2 i u hu
    exact ⟨a', b', l', u', t1, t2, n', dv', e, .tail _ m, (List.getElem?_append_left (by rw [← h.1]; exact hi)).trans r.1, r.2⟩
  · have hi2 : i = rs.length := by
      have := (List.getElem?_eq_some_iff.mp hu).1
      rw [List.length_append, List.length_singleton] at this
      omega
    subst hi2
    rw [List.getElem?_append_right (Nat.le_refl _), Nat.sub_self] at hu
    obtain rfl := Option.some.inj hu
    refine ⟨a, b, l, v, t, t', n, dv, rfl, .head _, ?_, f, sh⟩
    rw [h.1, List.getElem?_append_right (Nat.le_refl _), Nat.sub_self]
    rfl
/-- rows made by a loop: the list at lR, its tuples in tl -/
def RunAt (lR : Addr) (base : List (Addr × Obj)) (ok : List Row3 → Prop) (c : List Value × Nat × List (Addr × Obj) × List Row3) : Prop :=
  RowsAt c.2.2.1 c.1 c.2.2.2 ∧ ok c.2.2.2 ∧ OwnOff c.2.2.1 (lR :: base.map (·.1))
theorem rows_turn {g h : Heap} {L lR D : Addr} {o : Obj} {c : List Value} {n' : Nat} {tl base own led : List (Addr × Obj)} {R : List Row3} {b l : Int} {v : Value} {t t' : Tok} {k : Nat} {dv : PyData} {ok ok' : List Row3 → Prop}
    (hled : led = (tl ++ base) ++ own) (N : News g L h ((D, tup3 b l v t t' k) :: (lR, listOf (c ++ [Value.ref D]).toArray n') :: led)) (hlt : AllLt D ((lR, listOf (c ++ [Value.ref D]).toArray n') :: led))
    (hoff : OwnOff own (((lR, o) :: (tl ++ base)).map (·.1))) (hP : RunAt lR base ok (c, n, tl, R)) (f : Flat v dv) (sh : SeqAt.shaped dv = true) (hok : ok R → ok' (R ++ [(b, l, dv)])) :
    ∃ c' : List Value × Nat × List (Addr × Obj) × List Row3, RunAt lR base ok' c' ∧ News g L h (((lR, listOf c'.1.toArray c'.2.1) :: (c'.2.2.1 ++ base)) ++ own) ∧ OwnOff own (((lR, listOf c'.1.toArray c'.2.1) :: (c'.2.2.1 ++ base)).map (·.1)) := by
  have hne : ∀ p ∈ (lR, listOf (c ++ [Value.ref D]).toArray n') :: led, p.1 ≠ D := fun p hp => Nat.ne_of_lt (allLt_lt hlt p hp)
  have hl : ∀ q, (q ∈ tl ∨ q ∈ base ∨ q ∈ own) → q ∈ led := fun q hq => by
    rw [hled]
    rcases hq with h | h | h
    · exact List.mem_append_left _ (List.mem_append_left _ h)
    · exact List.mem_append_left _ (List.mem_append_right _ h)
    · exact List.mem_append_right _ h
  refine ⟨(c ++ [.ref D], n', (D, tup3 b l v t t' k) :: tl, R ++ [(b, l, dv)]), ⟨hP.1.snoc f sh, hok hP.2.1, ?_⟩, ?_, ?_⟩
  · intro p hp q hq
    rcases List.mem_cons.mp hp with e | hp
    · rw [e]
      rcases List.mem_cons.mp hq with rfl | hq
      · exact (hne (q, _) (.head _)).symm
      · obtain ⟨r, hr, rfl⟩ := List.mem_map.mp hq
        exact (hne r (.tail _ (hl r (.inr (.inl hr))))).symm
    · exact hP.2.2 p hp q hq
  · intro p hp
    simp only [List.cons_append, List.mem_cons, List.mem_append] at hp
    rcases hp with e | e | (hp | hp) | hp
    · rw [e]; exact N _ (.tail _ (.head _))
    · rw [e]; exact N _ (.head _)
    · exact N p (.tail _ (.tail _ (hl p (.inl hp))))
    · exact N p (.tail _ (.tail _ (hl p (.inr (.inl hp)))))
    · exact N p (.tail _ (.tail _ (hl p (.inr (.inr hp)))))
  · intro p hp q hq
    simp only [List.cons_append, List.map_cons, List.mem_cons] at hq
    rcases hq with rfl | rfl | hq
    · exact hoff p hp _ (.head _)
    · exact hne p (.tail _ (hl p (.inr (.inr hp))))
    · exact hoff p hp q (.tail _ hq)
def K5 : List (Int × Int) := [(0, 0), (0, 1), (1, 2), (2, 0), (0, 2)]
abbrev tp2 (x y : Int) (t t' : Tok) : Obj := { cls := .type "tuple", data := .seq #[.int x t, .int y t'] 0 }
theorem start_base {g h : Heap} {L lT D1 D2 D3 D4 D5 lSt D6 cB : Addr} {oB o6 oS : Obj} {t1 u1 t2 u2 t3 u3 t4 u4 t5 u5 : Tok} {nT : Nat} {news : List (Addr × Obj)}
    (N : News g L h ((lT, ({ cls := .type "tuple", data := .seq #[.ref D1, .ref D2, .ref D3, .ref D4, .ref D5] nT } : Obj)) :: (D5, tp2 0 2 t5 u5) :: (D4, tp2 2 0 t4 u4) :: (D3, tp2 1 2 t3 u3) :: (D2, tp2 0 1 t2 u2) :: (D1, tp2 0 0 t1 u1) :: (lSt, oS) :: (D6, o6) :: (cB, oB) :: news))
    (a : lSt < lT ∧ lSt < D5 ∧ lSt < D4 ∧ lSt < D3 ∧ lSt < D2 ∧ lSt < D1) (hs : AllLt lSt ((D6, o6) :: (cB, oB) :: news)) (h6 : AllLt D6 ((cB, oB) :: news)) :
    ∃ base, News g L h ((lSt, oS) :: ((D6, o6) :: base)) ∧ (lT, ({ cls := .type "tuple", data := .seq #[.ref D1, .ref D2, .ref D3, .ref D4, .ref D5] nT } : Obj)) ∈ base ∧
      (∀ (i : Nat) v, [Value.ref D1, .ref D2, .ref D3, .ref D4, .ref D5][i]? = some v → ∃ d b l t t', v = .ref d ∧ (d, tp2 b l t t') ∈ base ∧ K5[i]? = some (b, l)) ∧
      (cB, oB) ∈ base ∧ (∀ p ∈ news, p ∈ base) ∧ (∀ p ∈ base, p.1 ≠ lSt ∧ p.1 ≠ D6) := by
  refine ⟨(lT, _) :: (D5, tp2 0 2 t5 u5) :: (D4, tp2 2 0 t4 u4) :: (D3, tp2 1 2 t3 u3) :: (D2, tp2 0 1 t2 u2) :: (D1, tp2 0 0 t1 u1) :: (cB, oB) :: news, News.sub N fun p hp => ?_, .head _, fun i v hv => ?_, .tail _ (.tail _ (.tail _ (.tail _ (.tail _ (.tail _ (.head _)))))), fun p hp => .tail _ (.tail _ (.tail _ (.tail _ (.tail _ (.tail _ (.tail _ hp)))))), fun p hp => ?_⟩
  · simp only [List.mem_cons] at hp ⊢
    rcases hp with h | h | h | h | h | h | h | h | h | h <;> simp [h]
  · rcases i with _ | _ | _ | _ | _ | i
    · obtain rfl := Option.some.inj hv
      exact ⟨D1, 0, 0, t1, u1, rfl, .tail _ (.tail _ (.tail _ (.tail _ (.tail _ (.head _))))), rfl⟩
    · obtain rfl := Option.some.inj hv
      exact ⟨D2, 0, 1, t2, u2, rfl, .tail _ (.tail _ (.tail _ (.tail _ (.head _)))), rfl⟩
    · obtain rfl := Option.some.inj hv
      exact ⟨D3, 1, 2, t3, u3, rfl, .tail _ (.tail _ (.tail _ (.head _))), rfl⟩
    · obtain rfl := Option.some.inj hv
      exact ⟨D4, 2, 0, t4, u4, rfl, .tail _ (.tail _ (.head _)), rfl⟩
    · obtain rfl := Option.some.inj hv
      exact ⟨D5, 0, 2, t5, u5, rfl, .tail _ (.head _), rfl⟩
    · simp at hv
  · have h6s : D6 < lSt := hs.1
    have hn : ∀ q ∈ (cB, oB) :: news, q.1 ≠ lSt ∧ q.1 ≠ D6 := fun q hq => ⟨Nat.ne_of_lt (allLt_lt hs q (.tail _ hq)), Nat.ne_of_lt (allLt_lt h6 q hq)⟩
    have big : ∀ x : Nat, lSt < x → x ≠ lSt ∧ x ≠ D6 := fun x hx => ⟨Nat.ne_of_gt hx, Nat.ne_of_gt (Nat.lt_trans h6s hx)⟩
    rcases List.mem_cons.mp hp with e | hp
    · rw [e]; exact big _ a.1
    rcases List.mem_cons.mp hp with e | hp
    · rw [e]; exact big _ a.2.1
    rcases List.mem_cons.mp hp with e | hp
    · rw [e]; exact big _ a.2.2.1
    rcases List.mem_cons.mp hp with e | hp
    · rw [e]; exact big _ a.2.2.2.1
    rcases List.mem_cons.mp hp with e | hp
    · rw [e]; exact big _ a.2.2.2.2.1
    rcases List.mem_cons.mp hp with e | hp
    · rw [e]; exact big _ a.2.2.2.2.2
    exact hn p hp
def ValOk (d : PyData) : Prop := (∃ j, d = valD j) ∨ d = .str (PySem.Str.ofString "kept")
def StartOk (i : Nat) (S : List Row3) : Prop := (S.map fun r => (r.1, r.2.1)).Sublist ((3, 0) :: K5.take i) ∧ ∀ r ∈ S, ValOk r.2.2
theorem StartOk.skip {i : Nat} {S : List Row3} (h : StartOk i S) : StartOk (i + 1) S := by
  refine ⟨h.1.trans (List.Sublist.cons₂ _ ?_), h.2⟩
  rw [List.take_add_one]
  exact List.sublist_append_left _ _
theorem StartOk.put {i : Nat} {S : List Row3} {b l : Int} {d : PyData} (h : StartOk i S) (hk : K5[i]? = some (b, l)) (hv : ValOk d) : StartOk (i + 1) (S ++ [(b, l, d)]) := by
  refine ⟨?_, fun r hr => (List.mem_append.mp hr).elim (h.2 r) fun hr => by rw [List.mem_singleton.mp hr]; exact hv⟩
  rw [List.map_append, List.take_add_one, hk, ← List.cons_append]
  exact List.Sublist.append h.1 (List.Sublist.refl _)
theorem StartOk.range {i : Nat} {S : List Row3} (h : StartOk i S) : ∀ r ∈ S, (0 ≤ r.1 ∧ r.1 ≤ 3) ∧ 0 ≤ r.2.1 ∧ r.2.1 ≤ 4 := by
  intro r hr
  have hm : (r.1, r.2.1) ∈ (3, 0) :: K5.take i := h.1.subset (List.mem_map_of_mem (f := fun r : Row3 => (r.1, r.2.1)) hr)
  have hm2 : (r.1, r.2.1) ∈ (3, 0) :: K5 := (List.mem_cons.mp hm).elim (fun e => e ▸ .head _) fun h => .tail _ (List.mem_of_mem_take h)
  have all : ∀ p ∈ ((3, 0) :: K5 : List (Int × Int)), (0 ≤ p.1 ∧ p.1 ≤ 3) ∧ 0 ≤ p.2 ∧ p.2 ≤ 4 := by decide
  exact all _ hm2
def cfgS (S : List Row3) : Cfg := S.foldl (fun c r => putC c (nameS r.1 r.2.1) r.2.2) []
theorem cfgS_snoc (S : List Row3) (r : Row3) : cfgS (S ++ [r]) = putC (cfgS S) (nameS r.1 r.2.1) r.2.2 := by unfold cfgS; rw [List.foldl_append]; rfl
theorem cfgS_take {S : List Row3} {i : Nat} {r : Row3} (h : S[i]? = some r) : cfgS (S.take (i + 1)) = putC (cfgS (S.take i)) (nameS r.1 r.2.1) r.2.2 := by
  rw [List.take_add_one, h]; exact cfgS_snoc _ _
theorem foldl_len {f : Cfg → Row3 → Cfg} {k : Nat} (hf : ∀ c r, (f c r).length ≤ c.length + k) : ∀ (S : List Row3) (c : Cfg), (S.foldl f c).length ≤ c.length + k * S.length
  | [], c => Nat.le_add_right _ _
  | r :: S, c => by
    have h1 := foldl_len hf S (f c r)
    have h2 := hf c r
    rw [List.foldl_cons, List.length_cons, Nat.mul_add, Nat.mul_one]
    omega
theorem cfgS_len (S : List Row3) : (cfgS S).length ≤ S.length := by
  have := foldl_len (f := fun c r => putC c (nameS r.1 r.2.1) r.2.2) (k := 1) (fun c r => putC_length _ _ _) S []
  rw [List.length_nil] at this
  unfold cfgS
  omega
def runStep (c : Cfg) (r : Row3) : Cfg := if r.1 < 0 then c.filter keepC else saveC c (nameS r.1 r.2.1) r.2.2
def cfgR (c : Cfg) (R : List Row3) : Cfg := R.foldl runStep c
theorem cfgR_take {c : Cfg} {R : List Row3} {i : Nat} {r : Row3} (h : R[i]? = some r) : cfgR c (R.take (i + 1)) = runStep (cfgR c (R.take i)) r := by
  rw [List.take_add_one, h]; unfold cfgR; rw [List.foldl_append]; rfl
theorem runStep_len (c : Cfg) (r : Row3) : (runStep c r).length ≤ c.length + 2 := by
  unfold runStep
  split
  · exact Nat.le_trans (List.length_filter_le _ _) (Nat.le_add_right _ _)
  · unfold saveC
    refine Nat.le_trans (putC_length _ _ _) ?_
    split
    · have := putC_length c (preS ++ nameS r.1 r.2.1) ((getC c (nameS r.1 r.2.1)).getD (.str (PySem.Str.ofString "")))
      omega
    · omega
theorem cfgR_len (c : Cfg) (R : List Row3) : (cfgR c R).length ≤ c.length + 2 * R.length := foldl_len runStep_len R c
theorem name_len {b l : Int} (h0 : 0 ≤ l) (h5 : l ≤ 5) : (nameS b l).length ≤ 1000 := by
  have h1 := mul_len h0 h5
  have h2 := baseS_len b
  have : (nameS b l).length = (Txt.mul preS l).length + (baseS b).length := by unfold nameS; exact PySem.Str.length_append _ _
  omega
section lc
open PyProof.Rows.LCg
section
variable {prog : Program} {w : World} {A : Around} {E : Value → Shared → Prop} {s : Shared} {h₀ : Heap} {L : Addr} {m : Str → Option Value} {env : Env} {elt : PySem.Expr} {x : Str} {scope : Scope} {cl : List (Str × Addr)}
theorem CompEnd.imp {s₁ : Shared} {I C D : Addr} {oI oC oD : Obj} {S : List (Addr × Obj) → Prop} {r r' : Value → List (Addr × Obj) → Prop} {y : Value} {s₂ : Shared} (h : CompEnd h₀ L m s₁ I oI C oC D oD S r y s₂) (hr : ∀ nw, r y nw → r' y nw) :
    CompEnd h₀ L m s₁ I oI C oC D oD S r' y s₂ := by
  obtain ⟨h', tk, nw, e, F, N, o, hS, hq⟩ := h
  exact ⟨h', tk, nw, e, F, N, o, hS, hr nw hq⟩
theorem comp_row {h : Heap} {s₁ : Shared} {tk : Nat} {I C D DQ : Addr} {oI oC oQ : Obj} {ys : List Value} {nw : List (Addr × Obj)} {S : List (Addr × Obj) → Prop} {rest : Value → List (Addr × Obj) → Prop} {y : Value}
    (F : Fr h₀ L h m) (N : News h₀ L h ((DQ, oQ) :: (I, oI) :: (C, oC) :: (D, lst ys) :: nw)) (hlt : AllLt DQ ((I, oI) :: (C, oC) :: (D, lst ys) :: nw)) (off : Off3 I C D nw) (hS : S ((DQ, oQ) :: nw)) (r : rest y ((DQ, oQ) :: nw)) :
    CompEnd h₀ L m s₁ I oI C oC D (lst ys) S rest y { s₁ with heap := h, toks := tk } := by
  refine CompEnd.intro F N ((DQ, oQ) :: nw) (fun q hq => ?_) ⟨⟨Nat.ne_of_gt (allLt_lt hlt _ (.head _)), Nat.ne_of_gt (allLt_lt hlt _ (.tail _ (.head _))), Nat.ne_of_gt (allLt_lt hlt _ (.tail _ (.tail _ (.head _))))⟩, off⟩ hS r
  rcases List.mem_cons.mp hq with rfl | hq
  · exact .tail _ (.head _)
  rcases List.mem_cons.mp hq with rfl | hq
  · exact .tail _ (.tail _ (.head _))
  rcases List.mem_cons.mp hq with rfl | hq
  · exact .tail _ (.tail _ (.tail _ (.head _)))
  rcases List.mem_cons.mp hq with rfl | hq
  · exact .head _
  · exact .tail _ (.tail _ (.tail _ (.tail _ hq)))
/-- a comprehension by a state of its own -/
theorem comp_ind {S : List (Addr × Obj) → Prop} {P : Nat → Value → Prop} {Fin : List Value → List (Addr × Obj) → Prop} {n : Nat} (J : Nat → List Value → List (Addr × Obj) → Prop)
    (step : ∀ i ys news, i < n → J i ys news → ∀ v I oI C oC D m₂ h tk (E' : Value → Shared → Prop), P i v → NsObj oC m₂ → m₂ x = some v → Fr h₀ L h m → News h₀ L h ((I, oI) :: (C, oC) :: (D, lst ys) :: news) → Off3 I C D news → ((@Ne Nat I C) ∧ (@Ne Nat I D) ∧ (@Ne Nat C D)) →
      wpAny (model prog w) A (eval elt (compEnvC scope cl C env)) (CompEnd h₀ L m { s with heap := h, toks := tk } I oI C oC D (lst ys) S (fun y news' => J (i + 1) (ys ++ [y]) news')) E' { s with heap := h, toks := tk })
    (fin : ∀ ys news, J n ys news → Fin ys news) : ∀ k i ys news, i + k = n → J i ys news → CompRest prog w A h₀ L m env elt x scope cl s S P Fin k i ys news
  | 0, i, ys, news, e, hJ => CompRest.zero (fin ys news (by rw [← e]; exact hJ))
  | k + 1, i, ys, news, e, hJ => CompRest.succ fun v I oI C oC D m₂ h tk E' a b c d f g q =>
      wpAny_mono (step i ys news (by omega) hJ v I oI C oC D m₂ h tk E' a b c d f g q) (fun y s₂ hy => CompEnd.imp hy fun nw hn => comp_ind J step fin k (i + 1) (ys ++ [y]) nw (by omega) hn) fun _ _ e => e
/-- the names of a dict -/
def NameSrc (prog : Program) (w : World) (A : Around) (h₀ : Heap) (L : Addr) (m : Str → Option Value) (env : Env) (elt : PySem.Expr) (x : Str) (scope : Scope) (cl : List (Str × Addr)) (Fin : Shared → List Value → List (Addr × Obj) → Prop) (xv : Value) (s₁ : Shared) : Prop :=
  ∃ d o c news, xv = .ref d ∧ A.handled = none ∧ Fr h₀ L s₁.heap m ∧ News h₀ L s₁.heap news ∧ (d, o) ∈ news ∧ IsCfg prog w o c ∧ (d == sysModules) = false ∧ c.length ≤ 16777216 ∧
    ∀ s₂ : Shared, (∃ h, s₂ = { s₁ with heap := h }) → CompRest prog w A h₀ L m env elt x scope cl s₂ (fun nw => (d, o) ∈ nw) (fun i v => ∃ p t, c[i]? = some p ∧ v = .str p.1 t) (Fin s₂) c.length 0 [] news
theorem keys_walk {I d : Addr} {o : Obj} {kvs : List (Str × Value)} {ep : Nat} {c : Cfg} (hh : A.handled = none) (hne : d ≠ I) (hf : FlatPairs PyData.str kvs (cD c)) (hat : ∀ h : Heap, h.get? d = some o → h.DictAt (PySem.strKind prog w) d kvs ep) :
    Walks prog w A I [I, d] [I] c.length (fun i v => ∃ p t, c[i]? = some p ∧ v = .str p.1 t) (fun i h => h.IsKeyIter I d i kvs.length ep ∧ h.get? d = some o) := by
  have hlen : kvs.length = c.length := by rw [← hf.length, cD_length]
  have W := Walks.dictKeys (prog := prog) (w := w) (knd := PySem.strKind prog w) hh I d hne kvs ep
  have key : ∀ (i : Nat) (v : Value), (∃ k x, kvs[i]? = some (k, x) ∧ (PySem.strKind prog w).is k v = true) → ∃ p t, c[i]? = some p ∧ v = .str p.1 t := by
    rintro i v ⟨k, x, hx, hk⟩
    obtain ⟨dv, hd, _⟩ := hf.at hx
    have hd' : (c[i]?).map (fun p => (PyData.str p.1, p.2)) = some (PyData.str k, dv) := by rw [← List.getElem?_map]; exact hd
    obtain ⟨t, rfl⟩ := Value.isStrOf_shape hk
    cases hcj : c[i]? with
    | none => rw [hcj] at hd'; cases hd'
    | some p =>
      rw [hcj] at hd'
      have e1 : PyData.str p.1 = PyData.str k := congrArg Prod.fst (Option.some.inj hd')
      injection e1 with e1
      exact ⟨p, t, rfl, by rw [e1]⟩
  rw [← hlen]
  exact {
    sub := W.sub
    frame := fun i h h' st hk => ⟨st.1.at fun o e => hk I (by simp) o e, hk d (by simp) o st.2⟩
    item := fun i s Q E hi st hQ => W.item i s Q E hi ⟨st.1, hat _ st.2⟩ fun v h' tk' hv st' hk => hQ v h' tk' (key i v hv) ⟨st'.1, hk d o (by simpa using hne) st.2⟩ hk
    done := fun s Q E st hQ => W.done s Q E ⟨st.1, hat _ st.2⟩ hQ
    self := fun i s Q E st hQ => W.self i s Q E ⟨st.1, hat _ st.2⟩ hQ }
theorem seen_assign {iter : PySem.Expr} {y : Str} {px py : Pos} {pos spos : Pos} {Q : Flow → Shared → Prop} (F₀ : Fr h₀ L s.heap m) (hLe : env.locals = L)
    (hsw : swapsWith (.ListComp elt [⟨.Name x px, iter, [], 0⟩] scope pos) (some (.Name y py)) spos.line env = pure true)
    (hclos : closureFor scope env = pure cl) (hcell : ∀ z ∈ scope.names, z.2 ≠ .cell) (hkind : scope.kind = .function)
    (hnames : ∀ z ∈ scope.names, z.2 = .local → scope.names.lookup z.1 = some .local) (hx : scope.names.lookup x = some .local)
    (hy : env.kindOf y = some .local) (hp : (env.scope.kind == .class || (env.scope.kind == .module && env.locals != env.globals)) = false)
    (h : wpAny (model prog w) A (eval iter env) (NameSrc prog w A h₀ L m env elt x scope cl (fun s₂ => FinA h₀ L m s₂ y Q)) E s)
    (hs : ∀ x, foldedSetIterable iter env x = pure x) :
    wpAny (model prog w) A (exec (.Assign [.Name y py] (.ListComp elt [⟨.Name x px, iter, [], 0⟩] scope pos) spos) env) Q E s := by
  subst hLe
  rw [exec_Assign_Name_used _ _ _ _ hsw]
  refine wpAny_bind (wpAny_standAt (wpAny_bind ?_))
  show wpAny _ A (do let _ ← comprehension (.ListComp elt [⟨.Name x px, iter, [], 0⟩] scope pos) scope env _ (newList []) false (eval iter env) (some (assign (.Name y py) env))) _ _ s
  refine wpAny_bind (wpAny_mono (wpAny_comprehension_free (use := some (assign (.Name y py) env)) (Q := fun _ s' => Q .next s') rfl hs hclos hkind hnames
    (wpAny_mono h (fun xv s₁ h₁ => ?_) fun _ _ e => e)) (fun _ s' hq => wpAny_pure (wpAny_pure hq)) fun _ _ e => e)
  obtain ⟨d, o, c, news, rfl, hh, F, N, hm, hD, lo, hc, R⟩ := h₁
  obtain ⟨⟨kvs, a, hf⟩, hsh⟩ := hD
  obtain ⟨hcls, es, ep, hdat, hrest⟩ : ∃ _ : o.ExactDict, ∃ es ep, o.data = .dict es ep ∧ (KeysOf (PySem.strKind prog w) es ∧ Pairs (PySem.strKind prog w) es.toList kvs ∧ (kvs.map (·.1)).Nodup) := by
    have hDo : s₁.heap.DictOf (PySem.strKind prog w) d kvs := kda_dict N hm a
    obtain ⟨ep, o', es, e1, e2, e3, e4⟩ := hDo.dictAt
    have e : o' = o := Option.some.inj (e1.symm.trans (N _ hm).1)
    subst e
    exact ⟨e2, es, ep, e3, e4⟩
  have hat : ∀ h : Heap, h.get? d = some o → h.DictAt (PySem.strKind prog w) d kvs ep := fun h e => ⟨o, es, e, hcls, hdat, hrest⟩
  have hd1 : s₁.heap.get? d = some o := (N _ hm).1
  have hlt : d < s₁.heap.objs.size := Heap.lt_size hd1
  refine wpAny_pyIter_dict lo (hat _ hd1) ?_
  have up : ∀ b o', s₁.heap.get? b = some o' → (s₁.heap.push { cls := .type "dict_keyiterator", data := .fields #[.ref d, .int 0 0, .int kvs.length 0, .int ep 0] }).get? b = some o' := fun b o' e => Heap.get?_push_of_some _ e
  refine block_U (S := fun nw => (d, o) ∈ nw) (keys_walk hh (Nat.ne_of_lt hlt) hf hat) (by rw [sizeLine_eq]; exact hc) (fun i h st => ?_) (fun i h h' oI nw st e1 e2 _ N' hm' => ?_) hcell hkind hx ⟨⟨_, Heap.get?_push_size _ rfl, rfl, rfl⟩, up _ _ hd1⟩ (fun b hb => ?_)
    (F.keeps up) (N.grown up) (Nat.ne_of_lt F.ns.lt) (next_is_new F) (fun p hp => Nat.ne_of_lt (Heap.lt_size (N p hp).1)) hm (R _ ⟨_, rfl⟩) ?_
  · obtain ⟨oi, e, _⟩ := st.1; exact ⟨oi, e⟩
  · refine ⟨?_, (N' _ hm').1⟩
    obtain ⟨o', q, r⟩ := st.1
    rw [e1] at q
    cases q
    exact ⟨oI, e2, r⟩
  · show b < (s₁.heap.push _).objs.size
    rw [Heap.size_push]
    rcases List.mem_cons.mp hb with rfl | hb
    · exact Nat.lt_succ_self _
    · rw [List.mem_singleton.mp hb]; exact Nat.lt_succ_of_lt hlt
  · intro D C h' tk m' ys news' F' N' o1 hn hC₀ hD₀ hCL hDL hCD offC fin
    show wpAny _ A (assign (.Name y py) env (.ref D)) _ _ _
    refine wpAny_assign_Name (wpAny_storeName_local hy F'.ns (fun h₂ hn₂ hs₂ => ?_) hp)
    have hL₀ : h₀.get? env.locals = none := Heap.get?_none_of_le F'.above
    have F₂ : Fr h₀ env.locals h₂ (fun z => if z = y then some (.ref D) else m z) := ⟨hn₂, fun b o e => hs₂.extBut b o (fun q => by rw [q, hL₀] at e; cases e) (F'.keep b o e), F'.above⟩
    refine ⟨m', hn.sameBut hs₂ hCL, fun h'' hs'' => fin D h'' _ (F₂.change hs'' hCL hC₀) (fun p hp => ?_) o1⟩
    have z : h₂.get? p.1 = some p.2 := hs₂.extBut _ _ (N' p hp).2.1 (N' p hp).1
    refine ⟨hs''.extBut _ _ ?_ z, (N' p hp).2⟩
    rcases List.mem_cons.mp hp with rfl | hp
    · exact Ne.symm hCD
    · exact offC p hp
/-- a list of made tuples of four -/
def RowSrc (prog : Program) (w : World) (A : Around) (h₀ : Heap) (L : Addr) (m : Str → Option Value) (env : Env) (elt : PySem.Expr) (x1 x2 x3 x4 : Str) (scope : Scope) (cl : List (Str × Addr)) (Q : Value → Shared → Prop) (xv : Value) (s₁ : Shared) : Prop :=
  ∃ (l : Addr) (vs : List Value) (nn : Nat) (news : List (Addr × Obj)), xv = .ref l ∧ A.handled = none ∧ Fr h₀ L s₁.heap m ∧ News h₀ L s₁.heap news ∧ vs.length ≤ 16777216 ∧ ∃ J : Nat → List Value → List (Addr × Obj) → Prop, J 0 [] news ∧ (∀ i ys nw, J i ys nw → (l, listOf vs.toArray nn) ∈ nw) ∧
    (∀ i ys nw v, J i ys nw → vs[i]? = some v → ∃ (t : Addr) (v1 v2 v3 v4 : Value) (nt : Nat), v = .ref t ∧ (t, ({ cls := .type "tuple", data := .seq #[v1, v2, v3, v4] nt } : Obj)) ∈ nw ∧ ∀ I oI C oC D m₂ h tk (E' : Value → Shared → Prop), NsObj oC m₂ → m₂ x1 = some v1 → m₂ x2 = some v2 → m₂ x3 = some v3 → m₂ x4 = some v4 →
      Fr h₀ L h m → News h₀ L h ((I, oI) :: (C, oC) :: (D, lst ys) :: nw) → Off3 I C D nw → ((@Ne Nat I C) ∧ (@Ne Nat I D) ∧ (@Ne Nat C D)) →
      wpAny (model prog w) A (eval elt (compEnvC scope cl C env)) (CompEnd h₀ L m { s₁ with heap := h, toks := tk } I oI C oC D (lst ys) (fun _ => True) (fun y nw' => J (i + 1) (ys ++ [y]) nw')) E' { s₁ with heap := h, toks := tk }) ∧
    (∀ ys nw, J vs.length ys nw → ∀ D h tk, Fr h₀ L h m → News h₀ L h ((D, lst ys) :: nw) → Off1 D nw → Q (.ref D) { s₁ with heap := h, toks := tk })
theorem row_eval {iter : PySem.Expr} {x1 x2 x3 x4 : Str} {p1 p2 p3 p4 tp : Pos} {tc} {pos : Pos} {Q : Value → Shared → Prop} (_F₀ : Fr h₀ L s.heap m)
    (hclos : closureFor scope env = pure cl) (hcell : ∀ z ∈ scope.names, z.2 ≠ .cell) (hkind : scope.kind = .function)
    (hnames : ∀ z ∈ scope.names, z.2 = .local → scope.names.lookup z.1 = some .local) (hx1 : scope.names.lookup x1 = some .local) (hx2 : scope.names.lookup x2 = some .local) (hx3 : scope.names.lookup x3 = some .local) (hx4 : scope.names.lookup x4 = some .local)
    (hn : x1 ≠ x2 ∧ x1 ≠ x3 ∧ x1 ≠ x4 ∧ x2 ≠ x3 ∧ x2 ≠ x4 ∧ x3 ≠ x4)
    (h : wpAny (model prog w) A (eval iter env) (RowSrc prog w A h₀ L m env elt x1 x2 x3 x4 scope cl Q) E s)
    (hs : ∀ x, foldedSetIterable iter env x = pure x) :
    wpAny (model prog w) A (eval (.ListComp elt [⟨.Tuple [.Name x1 p1, .Name x2 p2, .Name x3 p3, .Name x4 p4] tc tp, iter, [], 0⟩] scope pos) env) Q E s := by
  rw [eval_ListComp]
  refine wpAny_comprehension_free (use := none) rfl hs hclos hkind hnames (wpAny_mono h (fun xv s₁ h₁ => ?_) fun _ _ e => e)
  obtain ⟨l, vs, nn, news, rfl, hh, F, N, hsz, J, hJ0, hJl, hturn, hfin⟩ := h₁
  have hl : s₁.heap.IsList l vs.toArray := ⟨_, (N _ (hJl _ _ _ hJ0)).1, rfl, nn, rfl⟩
  have hlt : l < s₁.heap.objs.size := by obtain ⟨_, e, _⟩ := hl; exact Heap.lt_size e
  refine wpAny_pyIter_list hl ?_
  generalize hI : s₁.heap.objs.size = I at *
  generalize hH : s₁.heap.push { cls := .type "list_iterator", data := .fields #[.ref l, .int 0 0] } = H
  have upH : ∀ b o, s₁.heap.get? b = some o → H.get? b = some o := fun b o e => by rw [← hH]; exact Heap.get?_push_of_some _ e
  have hHI : H.get? I = some { cls := .type "list_iterator", data := .fields #[.ref l, .int 0 0] } := by rw [← hH, ← hI]; exact Heap.get?_push_size _ rfl
  have hHs : H.objs.size = I + 1 := by rw [← hH, Heap.size_push, hI]
  have FH : Fr h₀ L H m := F.keeps upH
  have NH : News h₀ L H news := N.grown upH
  have hI0 : h₀.get? I = none := by rw [← hI]; exact next_is_new F
  have hIL : L ≠ I := by rw [← hI]; exact Nat.ne_of_lt F.ns.lt
  refine wpAny_newObj_type (wpAny_newFunctionEnv hcell (by intro y hy; simp at hy) (fun h₁ hns₁ hsb₁ => ?_) hkind)
  dsimp only at hns₁ hsb₁ ⊢
  generalize hG : H.push { cls := .type "list", dict := none, data := .seq ([] : List Value).toArray } = G at hns₁ hsb₁ ⊢
  have hGs : G.objs.size = I + 2 := by rw [← hG, Heap.size_push, hHs]
  rw [hGs] at hns₁ hsb₁ ⊢
  rw [hHs]
  have old : ∀ b o, H.get? b = some o → h₁.get? b = some o := fun b o e => hsb₁.extBut b o (Nat.ne_of_lt (Nat.lt_succ_of_lt (by have := Heap.lt_size e; rw [hHs] at this; exact this))) (Heap.get?_push_of_some _ (hG ▸ Heap.get?_push_of_some _ e))
  have new0 : ∀ b, I ≤ b → h₀.get? b = none := fun b hb => by
    cases e : h₀.get? b with
    | none => rfl
    | some o => have := F.keep b o e; have := Heap.lt_size this; rw [hI] at this; exact absurd (Nat.lt_of_lt_of_le this hb) (Nat.lt_irrefl _)
  have hD1 : h₁.get? (I + 1) = some (lst []) := hsb₁.extBut _ _ (show (I + 1 : Nat) ≠ I + 2 by omega) (Heap.get?_push_of_some _ (by rw [← hG, ← hHs]; exact Heap.get?_push_size _ rfl))
  have hLI : L < I := by rw [← hI]; exact F.ns.lt
  have nI : ∀ p ∈ news, p.1 < I := fun p hp => by rw [← hI]; exact Heap.lt_size (N p hp).1
  have loop : ∀ s₃ : Shared, s₃ = { s₁ with heap := h₁, toks := s₁.toks + ([] : List (Str × Value)).length } →
      codeAny (model prog w) A (.compLoop (.ListComp elt [⟨.Tuple [.Name x1 p1, .Name x2 p2, .Name x3 p3, .Name x4 p4] tc tp, iter, [], 0⟩] scope pos) 0 (.ref I) (.ref (I + 1)) (compEnvC scope cl (I + 2) env))
        (compPost (model prog w) A E none Q (.ref (I + 1)) (I + 2)) s₃ := by
    rintro s₃ rfl
    refine LCp.codeAny_compLoop_pair
      (fun k s' => ∃ h' tk i ys m' nw, s' = { s₁ with heap := h', toks := tk } ∧ i ≤ vs.length ∧ k = vs.length + 1 - i ∧ ys.length = i ∧ h'.IsListIter I l i ∧ Fr h₀ L h' m ∧ h'.Ns (I + 2) m' ∧ News h₀ L h' ((I + 1, lst ys) :: nw) ∧
        Off3 I (I + 2) (I + 1) nw ∧ J i ys nw) ?_ (vs.length + 1)
      ⟨h₁, _, 0, [], _, news, rfl, Nat.zero_le _, rfl, rfl, ⟨_, old _ _ hHI, rfl, rfl⟩, FH.keeps old, hns₁, fun p hp => ?_, Off3.of fun p hp => ?_, hJ0⟩
    · rintro k s' ⟨h', tk, i, ys, m', nw, rfl, hi, rfl, hyl, hit, F', hn', N', off', hJ⟩
      have off3 := off'.mem
      have hl' : h'.IsList l vs.toArray := ⟨_, (N' _ (.tail _ (hJl _ _ _ hJ))).1, rfl, nn, rfl⟩
      by_cases hlt2 : i < vs.length
      · have hv := List.getElem?_eq_getElem hlt2
        refine wpAny_pyNext_list_item hit hl' (x := vs[i]) (by simpa using hv) fun h₂ hit₂ hs₂ => ?_
        obtain ⟨t, v1, v2, v3, v4, nt, et, mt, R⟩ := hturn i ys nw _ hJ hv
        rw [et]
        have k2 : ∀ b o, b ≠ I → h'.get? b = some o → h₂.get? b = some o := fun b o hb e => hs₂.extBut b o hb e
        have F₂ : Fr h₀ L h₂ m := ⟨F'.ns.at' fun o e => k2 _ o hIL e, fun b o e => k2 b o (fun q => by rw [q, hI0] at e; cases e) (F'.keep b o e), F'.above⟩
        have N₂ : News h₀ L h₂ ((I + 1, lst ys) :: nw) := fun p hp => by
          refine ⟨k2 _ _ ?_ (N' p hp).1, (N' p hp).2⟩
          rcases List.mem_cons.mp hp with rfl | hp
          · exact Nat.succ_ne_self I
          · exact (off3 p hp).1
        have ht : IsTup h₂ t #[v1, v2, v3, v4] := ⟨_, (N₂ _ (.tail _ mt)).1, rfl, nt, rfl⟩
        refine wpAny_letOwnedTupleGo_listiter hit₂ ?_
        refine assign_Tuple_tuple hh ht rfl rfl fun h₃ he => ?_
        have k3 : ∀ b o, h₂.get? b = some o → h₃.get? b = some o := fun b o e => he b o (Nat.ne_of_lt (Heap.lt_size e)) e
        have hC2 : h₃.Ns (I + 2) m' := (hn'.at' fun o e => k2 _ o (show (I + 2 : Nat) ≠ I by omega) e).at' fun o e => k3 _ o e
        refine assignInOrder_cons (wpAny_assign_Name (wpAny_storeName_local (lookup_relabel_local hx1) hC2 (fun h₄ n₄ s₄ => ?_) (by simp [compEnvC, relabel, hkind])))
        refine assignInOrder_cons (wpAny_assign_Name (wpAny_storeName_local (lookup_relabel_local hx2) n₄ (fun h₅ n₅ s₅ => ?_) (by simp [compEnvC, relabel, hkind])))
        refine assignInOrder_cons (wpAny_assign_Name (wpAny_storeName_local (lookup_relabel_local hx3) n₅ (fun h₆ n₆ s₆ => ?_) (by simp [compEnvC, relabel, hkind])))
        refine assignInOrder_cons (wpAny_assign_Name (wpAny_storeName_local (lookup_relabel_local hx4) n₆ (fun h₇ n₇ s₇ => ?_) (by simp [compEnvC, relabel, hkind])))
        refine assignInOrder_nil ?_
        have k7 : ∀ b o, b ≠ I + 2 → h₂.get? b = some o → h₇.get? b = some o := fun b o hb e => s₇.extBut b o hb (s₆.extBut b o hb (s₅.extBut b o hb (s₄.extBut b o hb (k3 b o e))))
        have hCL : I + 2 ≠ L := Nat.ne_of_gt (Nat.lt_succ_of_lt (Nat.lt_succ_of_lt hLI))
        have hC0 : h₀.get? (I + 2) = none := new0 _ (by omega)
        have F₇ : Fr h₀ L h₇ m := (((((F₂.keeps k3).change s₄ hCL hC0).change s₅ hCL hC0).change s₆ hCL hC0).change s₇ hCL hC0)
        obtain ⟨oI, heI, hcI, hdI⟩ := id hit₂
        obtain ⟨oC, heC, hoC⟩ := ns_obj n₇
        have N₇ : News h₀ L h₇ ((I, oI) :: (I + 2, oC) :: (I + 1, lst ys) :: nw) := fun p hp => by
          rcases List.mem_cons.mp hp with rfl | hp
          · exact ⟨k7 _ _ (by show I ≠ I + 2; omega) heI, Ne.symm hIL, hI0⟩
          rcases List.mem_cons.mp hp with rfl | hp
          · exact ⟨heC, hCL, hC0⟩
          refine ⟨k7 _ _ ?_ (N₂ p hp).1, (N₂ p hp).2⟩
          rcases List.mem_cons.mp hp with rfl | hp
          · show I + 1 ≠ I + 2; omega
          · exact (off3 p hp).2.1
        obtain ⟨q12, q13, q14, q23, q24, q34⟩ := hn
        refine wpAny_mono (R I oI (I + 2) oC (I + 1) _ h₇ _ _ hoC (by simp [q12, q13, q14]) (by simp [q23, q24]) (by simp [q34]) (by simp) F₇ N₇ off' ⟨by show I ≠ I + 2; omega, by show I ≠ I + 1; omega, by show I + 2 ≠ I + 1; omega⟩) (fun y s₈ hy => ?_) fun _ _ e => e
        obtain ⟨h₈, tk₈, nw₈, rfl, F₈, N₈, off₈, _, hJ₈⟩ := hy
        have zI := (N₈ (I, oI) (.head _)).1
        have zC := (N₈ (I + 2, oC) (.tail _ (.head _))).1
        have zD := (N₈ (I + 1, lst ys) (.tail _ (.tail _ (.head _)))).1
        have N₈' : News h₀ L h₈ nw₈ := fun p hp => N₈ p (.tail _ (.tail _ (.tail _ hp)))
        refine append_at (hsz := by show ys.toArray.size ≤ sizeLine; rw [List.size_toArray, hyl, sizeLine_eq]; omega) zD fun h₉ hs₉ hD₉ => ?_
        have off4 := off₈.mem
        have hD0 : h₀.get? (I + 1) = none := new0 _ (Nat.le_succ _)
        have hDL : I + 1 ≠ L := Nat.ne_of_gt (Nat.lt_succ_of_lt hLI)
        refine ⟨vs.length + 1 - (i + 1), by omega, h₉, tk₈, i + 1, ys ++ [y], _, nw₈, rfl, hlt2, rfl, by rw [List.length_append, List.length_singleton, hyl], ⟨oI, hs₉.extBut _ _ (by show I ≠ I + 1; omega) zI, hcI, hdI⟩, F₈.change hs₉ hDL hD0,
          (hoC.ns zC).sameBut hs₉ (by show I + 2 ≠ I + 1; omega), fun p hp => ?_, off₈, hJ₈⟩
        rcases List.mem_cons.mp hp with rfl | hp
        · exact ⟨hD₉.trans (congrArg some (lst_snoc ys y)), hDL, hD0⟩
        · exact ⟨hs₉.extBut _ _ (off4 p hp).2.2 (N₈' p hp).1, (N₈' p hp).2⟩
      · obtain rfl : i = vs.length := Nat.le_antisymm hi (Nat.not_lt.mp hlt2)
        refine wpAny_pyNext_list_end hh hit hl' (by simp) fun h₂ he₂ => ?_
        have hD0 : h₀.get? (I + 1) = none := new0 _ (Nat.le_succ _)
        have hC0 : h₀.get? (I + 2) = none := new0 _ (by omega)
        have hCL : I + 2 ≠ L := Nat.ne_of_gt (Nat.lt_succ_of_lt (Nat.lt_succ_of_lt hLI))
        have F₂ : Fr h₀ L h₂ m := ⟨F'.ns.at' fun o e => he₂ _ o hIL e, fun b o e => he₂ b o (fun q => by rw [q, hI0] at e; cases e) (F'.keep b o e), F'.above⟩
        refine ⟨_, hn'.at' fun o e => he₂ _ o (show (I + 2 : Nat) ≠ I by omega) e, fun h'' hs'' => hfin ys nw hJ (I + 1) h'' _ (F₂.change hs'' hCL hC0) (fun p hp => ?_) off'.one⟩
        refine ⟨hs''.extBut _ _ ?_ (he₂ _ _ ?_ (N' p hp).1), (N' p hp).2⟩
        · rcases List.mem_cons.mp hp with rfl | hp
          · show I + 1 ≠ I + 2; omega
          · exact (off3 p hp).2.1
        · rcases List.mem_cons.mp hp with rfl | hp
          · exact Nat.succ_ne_self I
          · exact (off3 p hp).1
    · rcases List.mem_cons.mp hp with rfl | hp
      · exact ⟨hD1, Nat.ne_of_gt (Nat.lt_succ_of_lt hLI), new0 _ (Nat.le_succ _)⟩
      · exact ⟨old _ _ (NH p hp).1, (NH p hp).2⟩
    · have := nI p hp
      exact ⟨Nat.ne_of_lt this, Nat.ne_of_lt (Nat.lt_succ_of_lt (Nat.lt_succ_of_lt this)), Nat.ne_of_lt (Nat.lt_succ_of_lt this)⟩
  have hit1 : h₁.IsListIter I l 0 := ⟨_, old _ _ hHI, rfl, rfl⟩
  have hl1 : h₁.IsList l vs.toArray := hl.at fun o e => old _ o (upH _ o e)
  exact codeAny_compStart_list (loop _ rfl) ((Walks.list (prog := prog) (w := w) hh I l (by rw [← hI]; exact Nat.ne_of_lt (hI ▸ hlt)) vs.toArray).self 0 _ _ _ ⟨hit1, hl1⟩ (loop _ rfl))
end
end lc
/-- the run of a sort's asks by distinct int keys -/
def SRes (key : Nat → Int) (n : Nat) {α : Type} : KasT α → (α → Prop) → Prop
  | .ret a, R => R a
  | .ask i j k, R => (i < n ∧ j < n ∧ i ≠ j) ∧ SRes key n (k (decide (key i < key j))) R
section
variable {key : Nat → Int} {n : Nat}
theorem SRes.bind {α β : Type} {f : α → KasT β} {R : β → Prop} : ∀ {t : KasT α}, SRes key n t (fun a => SRes key n (f a) R) → SRes key n (t.bind f) R
  | .ret _, h => h
  | .ask _ _ _, h => ⟨h.1, SRes.bind h.2⟩
theorem SRes.mono {α : Type} {R R' : α → Prop} (hr : ∀ a, R a → R' a) : ∀ {t : KasT α}, SRes key n t R → SRes key n t R'
  | .ret _, h => hr _ h
  | .ask _ _ _, h => ⟨h.1, SRes.mono hr h.2⟩
theorem SRes.wp {α : Type} {cmp : Nat → Nat → (Bool → Shared → Prop) → Shared → Prop} {Q : α → Shared → Prop} {s : Shared} (hc : ∀ i j C, i < n → j < n → i ≠ j → C (decide (key i < key j)) s → cmp i j C s) :
    ∀ {t : KasT α}, SRes key n t (fun a => Q a s) → t.kasWp cmp Q s
  | .ret _, h => h
  | .ask i j k, h => hc i j _ h.1.1 h.1.2.1 h.1.2.2 (SRes.wp hc h.2)
def kp (key : Nat → Int) (p : Array Nat) (i : Nat) : Int := key (p.getD i 0)
structure Good (n : Nat) (p : Array Nat) : Prop where
  perm : p.toList.Perm (List.range n)
theorem Good.size {p : Array Nat} (g : Good n p) : p.size = n := by
  have := g.perm.length_eq
  rwa [List.length_range, Array.length_toList] at this
theorem getD_at {p : Array Nat} {i : Nat} (h : i < p.size) : p.getD i 0 = p.toList[i]'(by rwa [Array.length_toList]) := by
  simp [Array.getD, h]
theorem Good.lt {p : Array Nat} (g : Good n p) {i : Nat} (h : i < n) : p.getD i 0 < n := by
  rw [getD_at (by rw [g.size]; exact h)]
  exact List.mem_range.mp (g.perm.mem_iff.mp (List.getElem_mem _))
theorem Good.ne {p : Array Nat} (g : Good n p) {i j : Nat} (hi : i < n) (hj : j < n) (h : i ≠ j) : p.getD i 0 ≠ p.getD j 0 := by
  rw [getD_at (by rw [g.size]; exact hi), getD_at (by rw [g.size]; exact hj)]
  have nd := List.pairwise_iff_getElem.mp (g.perm.nodup_iff.mpr List.nodup_range)
  rcases Nat.lt_or_gt_of_ne h with h | h
  · exact nd i j _ _ h
  · exact fun e => nd j i _ _ h e.symm
theorem getD_opt {p : Array Nat} {i : Nat} : p.getD i 0 = (p[i]?).getD 0 := by
  simp [Array.getD_eq_getD_getElem?]
theorem kp_bubble {p : Array Nat} {k d : Nat} (hs : k < p.size) (hd : d ≤ k) (i : Nat) : kp key (bubble p k d) i = if i = k - d then kp key p k else if k - d < i ∧ i ≤ k then kp key p (i - 1) else kp key p i := by
  unfold kp
  simp only [getD_opt]
  rw [getElem?_bubble hs d hd]
  by_cases h : i = k - d
  · rw [if_pos h, if_pos h]
  · rw [if_neg h, if_neg h]
    by_cases h2 : k - d < i ∧ i ≤ k
    · rw [if_pos h2, if_pos h2]
    · rw [if_neg h2, if_neg h2]
theorem kp_rev {p : Array Nat} {j : Nat} (hj : j ≤ p.size) (i : Nat) : kp key (kas_rev p 0 j) i = if i < j then kp key p (j - 1 - i) else kp key p i := by
  unfold kp kas_rev
  simp only [getD_opt]
  rw [getElem?_mirror_all hj]
  by_cases h : i < j
  · rw [if_pos ⟨Nat.zero_le _, h⟩, if_pos h, Nat.zero_add]
  · rw [if_neg (fun e => h e.2), if_neg h]
theorem Good.bubble {p : Array Nat} (g : Good n p) (k d : Nat) : Good n (bubble p k d) := ⟨(Array.perm_iff_toList_perm.mp (bubble_perm p k d)).trans g.perm⟩
theorem Good.rev {p : Array Nat} (g : Good n p) (i j : Nat) : Good n (kas_rev p i j) := ⟨(Array.perm_iff_toList_perm.mp (mirror_perm p i j _)).trans g.perm⟩
def Up (key : Nat → Int) (p : Array Nat) (m : Nat) : Prop := ∀ i j, i < j → j < m → kp key p i < kp key p j
def Down (key : Nat → Int) (p : Array Nat) (m : Nat) : Prop := ∀ i j, i < j → j < m → kp key p j < kp key p i
variable (hinj : ∀ i j, i < n → j < n → key i = key j → i = j)
include hinj
theorem kp_ne {p : Array Nat} (g : Good n p) {i j : Nat} (hi : i < n) (hj : j < n) (h : i ≠ j) : kp key p i ≠ kp key p j := fun e => g.ne hi hj h (hinj _ _ (g.lt hi) (g.lt hj) e)
theorem asc_res {p : Array Nat} (g : Good n p) : ∀ (f a : Nat), 1 ≤ a → a + f ≤ n → Up key p a →
    SRes key n (kas_asc p f a) (fun m => a ≤ m ∧ m ≤ a + f ∧ Up key p m ∧ (m < a + f → kp key p m < kp key p (m - 1)))
  | 0, a, _, _, hu => ⟨Nat.le_refl _, Nat.le_refl _, hu, fun h => absurd h (Nat.lt_irrefl _)⟩
  | f + 1, a, h1, hn, hu => by
    refine ⟨⟨g.lt (by omega), g.lt (by omega), g.ne (by omega) (by omega) (by omega)⟩, ?_⟩
    by_cases h : kp key p a < kp key p (a - 1)
    · have hd : decide (key (p.getD a 0) < key (p.getD (a - 1) 0)) = true := decide_eq_true h
      rw [hd]
      show SRes key n (if (true : Bool) = true then _ else _) _
      rw [if_pos rfl]
      exact ⟨Nat.le_refl _, by omega, hu, fun _ => h⟩
    · have hd : decide (key (p.getD a 0) < key (p.getD (a - 1) 0)) = false := decide_eq_false h
      rw [hd]
      show SRes key n (if (false : Bool) = true then _ else _) _
      rw [if_neg Bool.false_ne_true]
      have hne := kp_ne hinj g (i := a) (j := a - 1) (by omega) (by omega) (by omega)
      have hu' : Up key p (a + 1) := by
        intro i j hij hj
        by_cases e : j < a
        · exact hu i j hij e
        · have ej : j = a := by omega
          subst ej
          by_cases e2 : i = j - 1
          · subst e2; omega
          · have := hu i (j - 1) (by omega) (by omega); omega
      exact SRes.mono (fun m hm => ⟨by omega, by omega, hm.2.2.1, fun h => hm.2.2.2 (by omega)⟩) (asc_res g f (a + 1) (by omega) (by omega) hu')
theorem desc_res {p : Array Nat} (g : Good n p) : ∀ (f a : Nat), 1 ≤ a → a + f ≤ n → Down key p a →
    SRes key n (kas_desc f p a 0) (fun r => r.1 = p ∧ r.2.2 = 0 ∧ a ≤ r.2.1 ∧ r.2.1 ≤ a + f ∧ Down key p r.2.1)
  | 0, a, _, _, hu => ⟨rfl, rfl, Nat.le_refl _, Nat.le_refl _, hu⟩
  | f + 1, a, h1, hn, hu => by
    refine ⟨⟨g.lt (by omega), g.lt (by omega), g.ne (by omega) (by omega) (by omega)⟩, ?_⟩
    have hne := kp_ne hinj g (i := a) (j := a - 1) (by omega) (by omega) (by omega)
    by_cases h : kp key p a < kp key p (a - 1)
    · have hd : decide (key (p.getD a 0) < key (p.getD (a - 1) 0)) = true := decide_eq_true h
      rw [hd]
      show SRes key n (if (true : Bool) = true then (if 0 > 0 then kas_desc f (kas_rev p (a - (0 + 1)) a) (a + 1) 0 else kas_desc f p (a + 1) 0) else _) _
      rw [if_pos rfl]
      rw [if_neg (by omega)]
      have hu' : Down key p (a + 1) := by
        intro i j hij hj
        by_cases e : j < a
        · exact hu i j hij e
        · have ej : j = a := by omega
          subst ej
          by_cases e2 : i = j - 1
          · subst e2; exact h
          · have := hu i (j - 1) (by omega) (by omega); omega
      exact SRes.mono (fun r hr => ⟨hr.1, hr.2.1, by omega, by omega, hr.2.2.2.2⟩) (desc_res g f (a + 1) (by omega) (by omega) hu')
    · have hd : decide (key (p.getD a 0) < key (p.getD (a - 1) 0)) = false := decide_eq_false h
      rw [hd]
      show SRes key n (if (false : Bool) = true then _ else _) _
      rw [if_neg Bool.false_ne_true]
      refine ⟨⟨g.lt (by omega), g.lt (by omega), g.ne (by omega) (by omega) (by omega)⟩, ?_⟩
      have hd2 : decide (key (p.getD (a - 1) 0) < key (p.getD a 0)) = true := decide_eq_true (by unfold kp at h hne; omega)
      rw [hd2]
      show SRes key n (if (true : Bool) = true then _ else _) _
      rw [if_pos rfl]
      exact ⟨rfl, rfl, Nat.le_refl _, Nat.le_add_right _ _, hu⟩
theorem tail_res {p : Array Nat} (g : Good n p) {a : Nat} (h1 : 1 ≤ a) (hn : a ≤ n) (hd : Down key p a) :
    SRes key n (kas_tail3 a n p) (fun r => Good n r.2 ∧ 1 ≤ r.1 ∧ r.1 ≤ n ∧ Up key r.2 r.1) := by
  have hu : Up key (kas_rev p 0 a) a := by
    intro i j hij hj
    rw [kp_rev (by rw [g.size]; exact hn), kp_rev (by rw [g.size]; exact hn), if_pos (by omega), if_pos hj]
    exact hd _ _ (by omega) (by omega)
  exact SRes.bind (SRes.mono (fun m hm => ⟨g.rev 0 a, by show 1 ≤ m; omega, by show m ≤ n; omega, hm.2.2.1⟩) (asc_res hinj (g.rev 0 a) (n - a) a h1 (by omega) hu))
theorem count_res {p : Array Nat} (g : Good n p) (h2 : 2 ≤ n) : SRes key n (kas_count n p) (fun r => Good n r.2 ∧ 1 ≤ r.1 ∧ r.1 ≤ n ∧ Up key r.2 r.1) := by
  refine SRes.bind (SRes.mono (fun m hm => ?_) (asc_res hinj g (n - 1) 1 (Nat.le_refl _) (by omega) (fun i j hij hj => by omega)))
  obtain ⟨m1, m2, mu, md⟩ := hm
  by_cases e : m = n
  · rw [if_pos (by simp [e])]
    exact ⟨g, m1, by show m ≤ n; omega, mu⟩
  · rw [if_neg (by simp [e])]
    by_cases e2 : m > 1
    · rw [if_pos e2]
      refine ⟨⟨g.lt (by omega), g.lt (by omega), g.ne (by omega) (by omega) (by omega)⟩, ?_⟩
      have hd : decide (key (p.getD 0 0) < key (p.getD (m - 1) 0)) = true := decide_eq_true (mu 0 (m - 1) (by omega) (by omega))
      rw [hd]
      show SRes key n (if (true : Bool) = true then _ else _) _
      rw [if_pos rfl]
      exact ⟨g, m1, by show m ≤ n; omega, mu⟩
    · rw [if_neg e2]
      have em : m = 1 := by omega
      subst em
      have hdn : Down key p 2 := by
        intro i j hij hj
        have := md (by omega)
        have ei : i = 0 := by omega
        have ej : j = 1 := by omega
        subst ei ej
        exact this
      refine SRes.bind (SRes.mono (fun r hr => ?_) (desc_res hinj g (n - 2) 2 (by omega) (by omega) hdn))
      obtain ⟨r1, r2, r3, r4, r5⟩ := hr
      rw [r1, if_neg (by omega)]
      exact tail_res hinj g (by omega) (by omega) r5
theorem place_res {p : Array Nat} (g : Good n p) {k : Nat} (hk : k < n) (hs : Up key p k) : ∀ (f l r : Nat), l ≤ r → r ≤ k → r - l ≤ f → (∀ i, i < l → kp key p i < kp key p k) → (∀ i, r ≤ i → i < k → kp key p k < kp key p i) →
    SRes key n (kas_place p k f l r) (fun x => x ≤ k ∧ (∀ i, i < x → kp key p i < kp key p k) ∧ (∀ i, x ≤ i → i < k → kp key p k < kp key p i))
  | 0, l, r, h1, h2, h3, a, b => by
    have e : l = r := by omega
    subst e
    exact ⟨h2, a, b⟩
  | f + 1, l, r, h1, h2, h3, a, b => by
    show SRes key n (if l ≥ r then .ret l else _) _
    by_cases e : l ≥ r
    · rw [if_pos e]
      have e : l = r := by omega
      subst e
      exact ⟨h2, a, b⟩
    · rw [if_neg e]
      have hm1 : l ≤ (l + r) / 2 := by omega
      have hm2 : (l + r) / 2 < r := by omega
      generalize hq : (l + r) / 2 = q at *
      refine ⟨⟨g.lt hk, g.lt (by omega), g.ne hk (by omega) (by omega)⟩, ?_⟩
      have hne := kp_ne hinj g (i := k) (j := q) hk (by omega) (by omega)
      by_cases h : kp key p k < kp key p q
      · have hd : decide (key (p.getD k 0) < key (p.getD q 0)) = true := decide_eq_true h
        rw [hd]
        show SRes key n (if (true : Bool) = true then _ else _) _
        rw [if_pos rfl]
        refine place_res g hk hs f l q hm1 (by omega) (by omega) a fun i h4 h5 => ?_
        by_cases e3 : i = q
        · subst e3; exact h
        · have := hs q i (by omega) h5; omega
      · have hd : decide (key (p.getD k 0) < key (p.getD q 0)) = false := decide_eq_false h
        rw [hd]
        show SRes key n (if (false : Bool) = true then _ else _) _
        rw [if_neg Bool.false_ne_true]
        refine place_res g hk hs f (q + 1) r (by omega) h2 (by omega) (fun i h4 => ?_) b
        by_cases e3 : i = q
        · subst e3; omega
        · have := hs i q (by omega) (by omega); omega
theorem bin_res : ∀ (f : Nat) {p : Array Nat} {k : Nat}, Good n p → k + f = n → Up key p k → SRes key n (kas_bin f p k) (fun q => Good n q ∧ Up key q n)
  | 0, p, k, g, e, hu => by
    have e : k = n := by omega
    subst e
    exact ⟨g, hu⟩
  | f + 1, p, k, g, e, hu => by
    refine SRes.bind (SRes.mono (fun l hl => ?_) (place_res hinj g (k := k) (by omega) hu k 0 k (Nat.zero_le _) (Nat.le_refl _) (by omega) (fun i h => absurd h (Nat.not_lt_zero _)) (fun i h1 h2 => by omega)))
    obtain ⟨l1, l2, l3⟩ := hl
    refine bin_res f (g.bubble k (k - l)) (by omega) fun i j hij hj => ?_
    have hk : k < p.size := by rw [g.size]; omega
    rw [kp_bubble hk (by omega), kp_bubble hk (by omega), show k - (k - l) = l by omega]
    repeat' split
    all_goals first
      | (exfalso; omega)
      | exact l2 _ (by omega)
      | exact l3 _ (by omega) (by omega)
      | exact hu _ _ (by omega) (by omega)
theorem sort_res (h2 : 2 ≤ n) : SRes key n (kas_sort n) (fun q => Good n q ∧ Up key q n) := by
  refine SRes.bind (SRes.mono (fun r hr => ?_) (count_res hinj (p := List.toArray (List.range n)) ⟨List.Perm.refl _⟩ h2))
  obtain ⟨g, r1, r2, hu⟩ := hr
  have hm : max r.1 1 = r.1 := by omega
  rw [hm]
  by_cases e : r.1 < n
  · rw [if_pos e]
    exact bin_res hinj _ g (by omega) hu
  · rw [if_neg e]
    have e : r.1 = n := by omega
    exact ⟨g, e ▸ hu⟩
end
section
variable {prog : Program} {w : World} {A : Around} {E : Value → Shared → Prop} {s : Shared}
def lexLt (a b c d : Int) : Bool := decide (a < c ∨ a = c ∧ b < d)
theorem tup_lt_tree {x y : Addr} {ox oy : Obj} {a b c d : Int} {t t' u u' : Tok} {n n' : Nat} {P : PySem.Fin → Shared → Prop} (hx : s.heap.get? x = some ox) (dx : ox.data = .seq #[.int a t, .int b t'] n)
    (hy : s.heap.get? y = some oy) (cy : oy.cls = .type "tuple") (dy : oy.data = .seq #[.int c u, .int d u'] n') (h : P (.done (.ret (.bool (lexLt a b c d)))) s) :
    wpAny (model prog w) A (Builtin.«tuple.__lt__» ⟨[.ref x, .ref y], []⟩) P E s := by
  have hTy : s.TypeIs (.ref y) "tuple" := ⟨_, hy, cy⟩
  show wpAny _ _ (isInstance (.ref y) (.type "tuple") >>= _) _ _ s
  refine wpAny_bind (wpAny_isInstance hTy isSubtype_tuple_tuple ?_)
  simp only [Bool.not_true, Bool.false_eq_true, if_false]
  refine wpAny_bind (wpAny_tupleItemsOf hx dx ?_)
  refine wpAny_bind (wpAny_tupleItemsOf hy dy ?_)
  refine wpAny_bind ?_
  show wpAny _ _ (forIn [(Value.int a t, Value.int c u), (Value.int b t', Value.int d u')] _ _) _ _ _
  rw [List.forIn_cons]
  refine wpAny_bind (wpAny_bind (wpAny_eqBool_int ?_))
  by_cases e : a = c
  · subst e
    rw [beq_self_eq_true]
    simp only [Bool.not_true, Bool.false_eq_true, if_false]
    refine wpAny_pure ?_
    dsimp only
    rw [List.forIn_cons]
    refine wpAny_bind (wpAny_bind (wpAny_eqBool_int ?_))
    by_cases e2 : b = d
    · subst e2
      rw [beq_self_eq_true]
      simp only [Bool.not_true, Bool.false_eq_true, if_false]
      refine wpAny_pure ?_
      dsimp only
      rw [List.forIn_nil]
      refine wpAny_pure ?_
      dsimp only
      have e : lexLt a b a b = false := by unfold lexLt; simp
      rw [e] at h
      exact wpAny_pure h
    · have e3 : (b == d) = false := by simp [e2]
      rw [e3]
      simp only [Bool.not_false, if_true]
      refine wpAny_bind (wpAny_rule ?_)
      refine wpAny_bind (wpAny_lt_int ?_)
      have e : lexLt a b a d = decide (b < d) := by unfold lexLt; simp
      rw [e] at h
      exact wpAny_bind (wpAny_pure (wpAny_pure (wpAny_pure (wpAny_pure h))))
  · have e3 : (a == c) = false := by simp [e]
    rw [e3]
    simp only [Bool.not_false, if_true]
    refine wpAny_bind (wpAny_rule ?_)
    refine wpAny_bind (wpAny_lt_int ?_)
    have e : lexLt a b c d = decide (a < c) := by unfold lexLt; simp [e]
    rw [e] at h
    exact wpAny_bind (wpAny_pure (wpAny_pure (wpAny_pure (wpAny_pure h))))
theorem tup_lt {x y : Addr} {ox oy : Obj} {a b c d : Int} {t t' u u' : Tok} {n n' : Nat} {Q : Value → Shared → Prop} (hx : s.heap.get? x = some ox) (cx : ox.cls = .type "tuple") (dx : ox.data = .seq #[.int a t, .int b t'] n)
    (hy : s.heap.get? y = some oy) (cy : oy.cls = .type "tuple") (dy : oy.data = .seq #[.int c u, .int d u'] n') (hu : A.units < cLine) (h : Q (.bool (lexLt a b c d)) s) : wpAny (model prog w) A (compareOp .Lt (.ref x) (.ref y)) Q E s := by
  show wpAny _ _ (richCompare .Lt (.ref x) (.ref y)) Q E s
  exact wpAny_richCompare_same_room (op := .Lt) ⟨_, hx, cx⟩ ⟨_, hy, cy⟩ F.slot_tuple_lt
    (wpAny_call_entry F.slot_tuple_lt ⟨_, hx, cx⟩ F.entry_tuple_lt (tup_lt_tree hx dx hy cy dy ⟨_, rfl, (fun e => nomatch e), h⟩) (F.args_tuple_lt_2 _ _)) hu
theorem lexLt_key {a b c d : Int} (hb : 0 ≤ b ∧ b < 100) (hd : 0 ≤ d ∧ d < 100) : lexLt a b c d = decide (100 * a + b < 100 * c + d) := by
  unfold lexLt
  by_cases h : 100 * a + b < 100 * c + d
  · rw [decide_eq_true h]; exact decide_eq_true (by omega)
  · rw [decide_eq_false h]; exact decide_eq_false (by omega)
def keyB (bs : List (Int × Int)) (i : Nat) : Int := 100 * (bs.getD i (0, 0)).1 + (bs.getD i (0, 0)).2
/-- a made tuple whose first item is a made pair of ints -/
def BornAt (news : List (Addr × Obj)) (v : Value) (x y : Int) : Prop :=
  ∃ a p r1 r2 r3 t t' n k, v = .ref a ∧ (a, ({ cls := .type "tuple", data := .seq #[.ref p, r1, r2, r3] n } : Obj)) ∈ news ∧ (p, ({ cls := .type "tuple", data := .seq #[.int x t, .int y t'] k } : Obj)) ∈ news
theorem tups_of {h₀ h : Heap} {L : Addr} {news : List (Addr × Obj)} (N : News h₀ L h news) : ∀ (vs : List Value), (∀ v ∈ vs, ∃ x y, BornAt news v x y) →
    ∃ fs, KatTups h vs fs ∧ fs.length = vs.length ∧ ∀ f ∈ fs, ∃ p o, f = .ref p ∧ h.get? p = some o ∧ o.cls = .type "tuple"
  | [], _ => ⟨[], trivial, rfl, fun _ h => nomatch h⟩
  | v :: vs, hv => by
    obtain ⟨fs, h1, h2, h3⟩ := tups_of N vs fun v hm => hv v (.tail _ hm)
    obtain ⟨x, y, a, p, r1, r2, r3, t, t', n, k, rfl, ma, mp⟩ := hv v (.head _)
    refine ⟨.ref p :: fs, KatTups.cons (N _ ma).1 rfl rfl rfl h1, by rw [List.length_cons, List.length_cons, h2], fun f hf => ?_⟩
    rcases List.mem_cons.mp hf with rfl | hf
    · exact ⟨p, _, rfl, (N _ mp).1, rfl⟩
    · exact h3 f hf
variable {h₀ : Heap} {L : Addr} {m : Str → Option Value} {news : List (Addr × Obj)}
theorem born_key {x y : Int} {a : Addr} {o : Obj} {t t' : Tok} {k : Nat} {h : Heap} (ho : h.get? a = some o) (ho2 : o = { cls := .type "tuple", data := .seq #[.int x t, .int y t'] k }) : IsTupleKey (intKind prog w) h [x, y] a :=
  ⟨_, _, _, ho, by rw [ho2], by rw [ho2], .cons (intKind_is prog w x t) (.cons (intKind_is prog w y t') .nil)⟩
theorem sorted_many {l : Addr} {vs : List Value} {bs : List (Int × Int)} {nn : Nat} {Q : Value → Shared → Prop} (F : Fr h₀ L s.heap m) (N : News h₀ L s.heap news) (hm : (l, listOf vs.toArray nn) ∈ news) (h2 : 2 ≤ vs.length) (h64 : vs.length < 64)
    (hb : ∀ i v, vs[i]? = some v → BornAt news v (bs.getD i (0, 0)).1 (bs.getD i (0, 0)).2) (hr : ∀ i, i < vs.length → 0 ≤ (bs.getD i (0, 0)).2 ∧ (bs.getD i (0, 0)).2 < 100)
    (hinj : ∀ i j, i < vs.length → j < vs.length → keyB bs i = keyB bs j → i = j) (hu : A.units + 8 < cLine)
    (h : ∀ D e p h', Good vs.length p → Up (keyB bs) p vs.length → Fr h₀ L h' m → News h₀ L h' ((D, listOf (p.toList.map fun i => vs.getD i Value.none).toArray e) :: news) → (∀ q ∈ news, q.1 < D) → Q (.ref D) { s with heap := h' }) :
    wpAny (model prog w) A (call (.builtin "sorted") [.ref l]) Q E s := by
  refine kat_sorted F N ⟨_, (N _ hm).1, rfl, nn, rfl⟩ h2 h64 fun D e1 h' F' N' hlt => ?_
  have N'' : News h₀ L h' news := News.drop1 N'
  obtain ⟨fs, t1, t2, t3⟩ := tups_of N'' vs fun v hv => by
    obtain ⟨i, hi, e⟩ := List.getElem_of_mem hv
    exact ⟨_, _, hb i v (by rw [← e]; exact List.getElem?_eq_getElem hi)⟩
  refine kat_kind (s := { s with heap := h' }) (T := .type "tuple") t1 (by omega) (fun v hv => ?_) (by decide) ?_
  · obtain ⟨p, o, rfl, ho, hc⟩ := t3 v hv
    rw [← hc]
    exact (show Looks (model prog w) h' (typeOf (.ref p)) o.cls from (Looks.ld ho).andThen .now)
  refine SRes.wp (key := keyB bs) (n := vs.length) (fun i j C hi hj hij hC => ?_) (SRes.mono (fun p hp => ?_) (sort_res hinj h2))
  · obtain ⟨a, p, r1, r2, r3, t, t', n, k, e1, ma, mp⟩ := hb i _ (List.getElem?_eq_getElem hi)
    obtain ⟨a', p', r1', r2', r3', u, u', n', k', e2, ma', mp'⟩ := hb j _ (List.getElem?_eq_getElem hj)
    have g1 : vs.getD i Value.none = .ref a := by rw [← e1]; simp [hi]
    have g2 : vs.getD j Value.none = .ref a' := by rw [← e2]; simp [hj]
    unfold kas_ask
    rw [g1, g2]
    refine kat_lt (b := false) (N'' _ ma).1 rfl (N'' _ ma').1 rfl ?_
    refine kat_cons (wpAny_eqBool_tuple (knd := intKind prog w) (by exact Nat.lt_of_le_of_lt (by show A.units + 2 ≤ A.units + 8; omega) hu) (born_key (N'' _ mp).1 rfl) (born_key (N'' _ mp').1 rfl) ?_)
    have hk : keyB bs i ≠ keyB bs j := fun e => hij (hinj i j hi hj e)
    rw [decide_eq_false (p := [(bs.getD i (0, 0)).1, (bs.getD i (0, 0)).2] = [(bs.getD j (0, 0)).1, (bs.getD j (0, 0)).2]) (fun e => by
      simp only [List.cons.injEq, and_true] at e
      exact hk (by unfold keyB; rw [e.1, e.2]))]
    refine kat_no (kat_one _ _ ?_)
    refine tup_lt (N'' _ mp).1 rfl rfl (N'' _ mp').1 rfl rfl (by exact Nat.lt_of_le_of_lt (by show A.units + 2 ≤ A.units + 8; omega) hu) ?_
    rw [lexLt_key (hr i hi) (hr j hj)]
    first
    | exact ⟨_, rfl, hC⟩
    | exact hC
  · refine KasFin.intro F' N' (UpdF.head (fun q hq => Nat.ne_of_lt (hlt q hq))) fun h'' c F2 N2 => ?_
    exact h D c p h'' hp.1 hp.2 F2 N2 hlt
theorem short_sort {a : Addr} {vs : List Value} {n : Nat} {P : PySem.Fin → Shared → Prop} (F : Fr h₀ L s.heap m) (N : News h₀ L s.heap news) (ho : s.heap.get? a = some (seqObj "list" vs.toArray n)) (haL : a ≠ L) (ha0 : h₀.get? a = none) (hna : ∀ p ∈ news, p.1 ≠ a)
    (h2 : vs.length < 2) (h : ∀ e h', Fr h₀ L h' m → News h₀ L h' ((a, listOf vs.toArray e) :: news) → P (.done (.ret .none)) { s with heap := h' }) :
    wpAny (model prog w) A (Builtin.«list.sort» ⟨[.ref a], []⟩) P E s := by
  have s1 := Heap.SameBut.update s.heap a (Obj.mapSeq fun _ => (#[] : Array Value))
  obtain ⟨e1, ho1⟩ : ∃ e1, (s.heap.update a (Obj.mapSeq fun _ => (#[] : Array Value))).get? a = some (seqObj "list" #[] e1) := ⟨_, get?_update_seq ho fun _ => #[]⟩
  have F3 : Fr h₀ L (((s.heap.update a (Obj.mapSeq fun _ => (#[] : Array Value))).push (seqObj "tuple" vs.toArray 0)).push (seqObj "list" #[] 0)) m := ((kas_fr F s1 haL ha0).push _).push _
  have N3 : News h₀ L (((s.heap.update a (Obj.mapSeq fun _ => (#[] : Array Value))).push (seqObj "tuple" vs.toArray 0)).push (seqObj "list" #[] 0)) news :=
    (kas_news N s1 hna).grown fun b x e => Heap.get?_push_of_some _ (Heap.get?_push_of_some _ e)
  have ho3 := Heap.get?_push_of_some (seqObj "list" #[] 0) (Heap.get?_push_of_some (seqObj "tuple" vs.toArray 0) ho1)
  generalize hH : ((s.heap.update a (Obj.mapSeq fun _ => (#[] : Array Value))).push (seqObj "tuple" vs.toArray 0)).push (seqObj "list" #[] 0) = H at *
  rw [list_sort_plain]
  refine wpAny_bind (listItems_at ho rfl ?_)
  refine wpAny_bind (listUpdate_at ho rfl ?_ (by rw [List.size_toArray, sizeLine_eq]; omega) (Nat.zero_le _))
  refine wpAny_bind (seqEpoch_at ho1 rfl ?_)
  refine wpAny_bind (wpAny_newTuple ?_ (by show vs.length ≤ _; rw [sizeLine_eq]; omega))
  refine wpAny_bind (wpAny_newList ?_ (Nat.zero_le _))
  refine wpAny_holding ?_
  dsimp only
  have hz : vs.toArray.size < 2 := by rw [List.size_toArray]; exact h2
  rw [if_pos hz, if_pos hz]
  refine wpAny_bind (wpAny_pure ?_)
  rw [StateT.run_pure]
  refine wpAny_bind (wpAny_pure ?_)
  dsimp only
  have hout : (arrOf (SortSt.mk' general' (vs.toArray.zip vs.toArray) #[] 7 none)).map (·.2) = vs.toArray := by
    apply Array.toList_inj.mp
    show ((vs.toArray.zip vs.toArray).map (·.2)).toList = vs
    simp [List.map_snd_zip]
  rw [hout]
  show wpAny (model prog w) A _ P E { s with heap := ((s.heap.update a (Obj.mapSeq fun _ => (#[] : Array Value))).push (seqObj "tuple" vs.toArray 0)).push (seqObj "list" #[] 0) }
  rw [hH]
  refine wpAny_bind (seqEpoch_at ho3 rfl ?_)
  refine wpAny_bind (listUpdate_at ho3 rfl ?_ (Nat.zero_le _) (by rw [List.size_toArray, sizeLine_eq]; omega))
  have s2 := Heap.SameBut.update H a (Obj.mapSeq fun _ => vs.toArray)
  obtain ⟨c2, hc2⟩ : ∃ c2, (H.update a (Obj.mapSeq fun _ => vs.toArray)).get? a = some (seqObj "list" vs.toArray c2) := ⟨_, get?_update_seq ho3 fun _ => vs.toArray⟩
  try rw [show failedOf (SortSt.mk' general' (vs.toArray.zip vs.toArray) #[] 7 none) = none from rfl]
  simp only [bne_self_eq_false, Bool.false_eq_true, if_false]
  refine wpAny_pure (h c2 _ (kas_fr F3 s2 haL ha0) fun p hp => ?_)
  rcases List.mem_cons.mp hp with rfl | hp
  · exact ⟨hc2, haL, ha0⟩
  · exact kas_news N3 s2 hna p hp
theorem sorted_short {l : Addr} {vs : List Value} {nn : Nat} {Q : Value → Shared → Prop} (F : Fr h₀ L s.heap m) (N : News h₀ L s.heap news) (hm : (l, listOf vs.toArray nn) ∈ news) (h2 : vs.length < 2)
    (h : ∀ D e h', Fr h₀ L h' m → News h₀ L h' ((D, listOf vs.toArray e) :: news) → (∀ q ∈ news, q.1 < D) → Q (.ref D) { s with heap := h' }) :
    wpAny (model prog w) A (call (.builtin "sorted") [.ref l]) Q E s := by
  have hl : s.heap.IsList l vs.toArray := ⟨_, (N _ hm).1, rfl, nn, rfl⟩
  refine Calls.call_function_entry kind_sorted plain_sorted entry_sorted (args_sorted1 _) ?_
  unfold Builtin.«sorted»
  refine wpAny_bind (m := checkCount "sorted" 1 1 _) (wpAny_pure ?_)
  refine wpAny_bind (collect_list hl ?_ (by rw [sizeLine_eq]; omega))
  refine wpAny_bind (wpAny_newList ?_ (by show vs.length ≤ _; rw [sizeLine_eq]; omega))
  have hL : L < s.heap.objs.size := F.ns.lt
  obtain ⟨G, hG⟩ : ∃ G, G = (s.heap.push (seqObj "list" #[] 0)).update s.heap.objs.size (Obj.mapSeq (· ++ vs.toArray)) := ⟨_, rfl⟩
  have hsz : G.objs.size = s.heap.objs.size + 1 := by rw [hG, Heap.size_update, size_push']
  have keep : ∀ b o, s.heap.get? b = some o → (G.push (seqObj "list" vs.toArray 0)).get? b = some o := fun b o q => by
    have hlt : b < s.heap.objs.size := Heap.lt_size q
    rw [Heap.get?_push_ne _ _ _ (by rw [hsz]; exact Nat.ne_of_lt (Nat.lt_succ_of_lt hlt)), hG, Heap.get?_update_ne _ _ _ _ (Nat.ne_of_lt hlt), Heap.get?_push_ne _ _ _ (Nat.ne_of_lt hlt)]
    exact q
  show wpAny _ _ _ _ _ { s with heap := ((s.heap.push (seqObj "list" #[] 0)).update s.heap.objs.size (Obj.mapSeq (· ++ vs.toArray))).push (seqObj "list" vs.toArray 0) }
  rw [← hG, hsz]
  have hoL : (G.push (seqObj "list" vs.toArray 0)).get? (s.heap.objs.size + 1) = some (seqObj "list" vs.toArray 0) := by rw [← hsz]; exact Heap.get?_push_size _ rfl
  refine wpAny_bind (wpAny_holding (wpAny_call_entry slot_list_sort ⟨_, hoL, rfl⟩ entry_list_sort ?body (args_list_sort _)))
  case body =>
    refine short_sort (s := { s with heap := G.push (seqObj "list" vs.toArray 0) }) (F.kept keep) (N.grown keep) hoL (Nat.ne_of_gt (Nat.lt_succ_of_lt hL)) (Heap.get?_none_of_le (Nat.le_trans F.above (Nat.le_succ_of_le (Nat.le_of_lt hL))))
      (fun p hp => Nat.ne_of_lt (Nat.lt_succ_of_lt (Heap.lt_size (N p hp).1))) h2 fun e h' F' N' => ?_
    exact ⟨_, rfl, wpAny_pure ⟨_, rfl, h _ e h' F' N' fun q hq => Nat.lt_succ_of_lt (Heap.lt_size (N q hq).1)⟩⟩
theorem sorted_rows {l : Addr} {vs : List Value} {bs : List (Int × Int)} {nn : Nat} {Q : Value → Shared → Prop} (F : Fr h₀ L s.heap m) (N : News h₀ L s.heap news) (hm : (l, listOf vs.toArray nn) ∈ news) (h64 : vs.length < 64)
    (hb : ∀ i v, vs[i]? = some v → BornAt news v (bs.getD i (0, 0)).1 (bs.getD i (0, 0)).2) (hr : ∀ i, i < vs.length → 0 ≤ (bs.getD i (0, 0)).2 ∧ (bs.getD i (0, 0)).2 < 100)
    (hinj : ∀ i j, i < vs.length → j < vs.length → keyB bs i = keyB bs j → i = j) (hu : A.units + 8 < cLine)
    (h : ∀ D e p h', Good vs.length p → Up (keyB bs) p vs.length → Fr h₀ L h' m → News h₀ L h' ((D, listOf (p.toList.map fun i => vs.getD i Value.none).toArray e) :: news) → (∀ q ∈ news, q.1 < D) → Q (.ref D) { s with heap := h' }) :
    wpAny (model prog w) A (call (.builtin "sorted") [.ref l]) Q E s := by
  by_cases h2 : 2 ≤ vs.length
  · exact sorted_many F N hm h2 h64 hb hr hinj hu h
  · refine sorted_short F N hm (by omega) fun D e h' F' N' hlt => ?_
    refine h D e (List.toArray (List.range vs.length)) h' ⟨List.Perm.refl _⟩ (fun i j hij hj => by omega) F' ?_ hlt
    have e2 : ((List.toArray (List.range vs.length)).toList.map fun i => vs.getD i Value.none) = vs := by
      match vs, h2 with
      | [], _ => rfl
      | [v], _ => rfl
      | _ :: _ :: _, h2 => exact absurd (Nat.le_add_left 2 _) h2
    rw [e2]
    exact N'
end
abbrev Ent := (Int × Int) × (Int × Int) × PyData
def findE (E : List Ent) (k : Int × Int) : Option ((Int × Int) × PyData) := (E.find? fun r => decide (r.2.1 = k)).map fun r => (r.1, r.2.2)
def setE (E : List Ent) (born k : Int × Int) (v : PyData) : List Ent := if (findE E k).isSome then E.map (fun r => if r.2.1 = k then (r.1, r.2.1, v) else r) else E ++ [(born, k, v)]
def oldE (E : List Ent) (k : Int × Int) : PyData := match findE E k with | some (_, x) => x | none => emptyD
def backE (t : Int) (E : List Ent) (k : Int × Int) (v : PyData) : List Ent := if PyData.eqv (oldE E k) v = false ∧ (findE E (k.1, k.2 + 1)).isSome = false then E ++ [((t, 0), (k.1, k.2 + 1), oldE E k)] else E
def stepE (t : Int) (E : List Ent) (r : Row3) : List Ent := if r.1 < 0 then E.filter (fun e => decide (e.2.1.2 ≤ 0)) else setE (backE t E (r.1, r.2.1) r.2.2) (t, 1) (r.1, r.2.1) r.2.2
def iniE (S : List Row3) : Nat → List Ent
  | 0 => []
  | i + 1 => iniE S i ++ (match S[i]? with | some (b, l, v) => [((-1, (i : Int)), (b, l), v)] | none => [])
def machE (S R : List Row3) : Nat → List Ent
  | 0 => iniE S S.length
  | t + 1 => match R[t]? with | some r => stepE (t : Int) (machE S R t) r | none => machE S R t
theorem findE_nil (k : Int × Int) : findE [] k = none := rfl
theorem findE_cons (r : Ent) (E : List Ent) (k : Int × Int) : findE (r :: E) k = if r.2.1 = k then some (r.1, r.2.2) else findE E k := by
  unfold findE
  by_cases h : r.2.1 = k
  · rw [if_pos h, List.find?_cons_of_pos (by simpa using h)]; rfl
  · rw [if_neg h, List.find?_cons_of_neg (by simpa using h)]
theorem findE_snoc (E : List Ent) (r : Ent) (k : Int × Int) : findE (E ++ [r]) k = match findE E k with | some x => some x | none => if r.2.1 = k then some (r.1, r.2.2) else none := by
  induction E with
  | nil => rw [List.nil_append, findE_cons, findE_nil]
  | cons q E ih =>
    rw [List.cons_append, findE_cons, findE_cons, ih]
    by_cases h : q.2.1 = k
    · rw [if_pos h, if_pos h]
    · rw [if_neg h, if_neg h]
theorem findE_filter (E : List Ent) (k : Int × Int) : findE (E.filter fun e => decide (e.2.1.2 ≤ 0)) k = if k.2 ≤ 0 then findE E k else none := by
  induction E with
  | nil => simp [findE_nil]
  | cons q E ih =>
    by_cases hq : q.2.1.2 ≤ 0
    · rw [List.filter_cons_of_pos (by simpa using hq), findE_cons, findE_cons, ih]
      by_cases h : q.2.1 = k
      · rw [if_pos h, if_pos h, if_pos (by rw [← h]; exact hq)]
      · rw [if_neg h, if_neg h]
    · rw [List.filter_cons_of_neg (by simpa using hq), ih, findE_cons]
      by_cases h : q.2.1 = k
      · rw [if_neg (by rw [← h]; exact hq), if_neg (by rw [← h]; exact hq)]
      · rw [if_neg h]
theorem findE_upd (E : List Ent) (k k' : Int × Int) (v : PyData) : findE (E.map fun r => if r.2.1 = k then (r.1, r.2.1, v) else r) k' = if k' = k then (findE E k).map (fun x => (x.1, v)) else findE E k' := by
  induction E with
  | nil => simp [findE_nil]
  | cons q E ih =>
    rw [List.map_cons, findE_cons, ih]
    by_cases h : q.2.1 = k
    · rw [if_pos h]
      dsimp only
      by_cases h' : k' = k
      · rw [if_pos (by rw [h, h']), if_pos h', findE_cons, if_pos h]; rfl
      · rw [if_neg (by rw [h]; exact fun e => h' e.symm), if_neg h', if_neg h', findE_cons, if_neg (by rw [h]; exact fun e => h' e.symm)]
    · rw [if_neg h]
      by_cases h' : k' = k
      · rw [if_pos h', h', if_neg h, if_pos rfl, findE_cons, if_neg h]
      · rw [if_neg h', if_neg h', findE_cons]
theorem findE_set (E : List Ent) (born k k' : Int × Int) (v : PyData) : findE (setE E born k v) k' = if k' = k then (match findE E k with | some (b, _) => some (b, v) | none => some (born, v)) else findE E k' := by
  unfold setE
  cases hf : findE E k with
  | some x =>
    rw [if_pos (show (some x).isSome = true from rfl), findE_upd, hf]
    rfl
  | none =>
    rw [if_neg (by simp), findE_snoc]
    by_cases h : k' = k
    · rw [if_pos h, h, hf]
      simp
    · rw [if_neg h]
      cases findE E k' with
      | some x => rfl
      | none => simp [Ne.symm h]
theorem findE_back (t : Int) (E : List Ent) (k k' : Int × Int) (v : PyData) : findE (backE t E k v) k' = match findE E k' with
    | some x => some x
    | none => if k' = (k.1, k.2 + 1) ∧ PyData.eqv (oldE E k) v = false then some ((t, 0), oldE E k) else none := by
  unfold backE
  by_cases h : PyData.eqv (oldE E k) v = false ∧ (findE E (k.1, k.2 + 1)).isSome = false
  · rw [if_pos h, findE_snoc]
    cases hf : findE E k' with
    | some x => rfl
    | none =>
      by_cases h' : (k.1, k.2 + 1) = k'
      · rw [if_pos h', if_pos ⟨h'.symm, h.1⟩]
      · rw [if_neg h', if_neg fun e => h' e.1.symm]
  · rw [if_neg h]
    cases hf : findE E k' with
    | some x => rfl
    | none => rw [if_neg fun e => h ⟨e.2, by rw [← e.1, hf]; rfl⟩]
/-- the story tells what the machine holds -/
theorem ini_story {S : List Row3} (hd : (S.map fun r => (r.1, r.2.1)).Nodup) (b l : Int) : ∀ i, i ≤ S.length → iniR S b l i = findE (iniE S i) (b, l)
  | 0, _ => rfl
  | i + 1, hi => by
    obtain ⟨⟨b', l', v⟩, hr⟩ : ∃ r, S[i]? = some r := ⟨_, List.getElem?_eq_getElem (by omega)⟩
    have ih := ini_story hd b l i (by omega)
    show (match S[i]? with | some (b', l', v) => if b' = b ∧ l' = l then some ((-1, (i : Int)), v) else iniR S b l i | none => iniR S b l i) = findE (iniE S i ++ _) (b, l)
    rw [hr]
    dsimp only
    rw [findE_snoc]
    by_cases h : b' = b ∧ l' = l
    · rw [if_pos h]
      have hno : findE (iniE S i) (b, l) = none := by
        have none_of : ∀ j, j ≤ i → findE (iniE S j) (b, l) = none := by
          intro j hj
          induction j with
          | zero => rfl
          | succ j ihj =>
            have hjl : j < S.length := by omega
            show findE (iniE S j ++ (match S[j]? with | some (b, l, v) => [((-1, (j : Int)), (b, l), v)] | none => [])) (b, l) = none
            rw [List.getElem?_eq_getElem hjl]
            dsimp only
            rw [findE_snoc, ihj (by omega)]
            dsimp only
            rw [if_neg]
            intro e
            have hpw := List.pairwise_iff_getElem.mp hd j i (by rw [List.length_map]; exact hjl) (by rw [List.length_map]; omega) (by omega)
            rw [List.getElem_map, List.getElem_map] at hpw
            refine hpw ?_
            have e2 := (List.getElem?_eq_some_iff.mp hr).2
            rw [e2]
            show _ = (b', l')
            rw [h.1, h.2]
            exact e
        exact none_of i (Nat.le_refl _)
      rw [hno]
      simp [h.1, h.2]
    · rw [if_neg h, ih]
      cases findE (iniE S i) (b, l) with
      | some x => rfl
      | none => rw [if_neg fun e => h ⟨congrArg Prod.fst e, congrArg Prod.snd e⟩]
theorem story_mach {S R : List Row3} (hd : (S.map fun r => (r.1, r.2.1)).Nodup) (hR : ∀ r ∈ R, RowOk r) : ∀ t, t ≤ R.length → ∀ (b : Int) (l : Nat), story S R b l t = findE (machE S R t) (b, (l : Int))
  | 0, _, b, l => by
    rw [story_loop]
    exact ini_story hd b l S.length (Nat.le_refl _)
  | t + 1, ht, b, l => by
    have ih := story_mach hd hR t (by omega)
    obtain ⟨⟨who, deep, v⟩, hr⟩ : ∃ r, R[t]? = some r := ⟨_, List.getElem?_eq_getElem (by omega)⟩
    have hok := hR _ (List.mem_of_getElem? hr)
    have hdp : 0 ≤ deep := hok.2.1
    rw [story_loop]
    show stepR b l (prevR S R b l) R (loopRes S R b l (prevR S R b l) t) t = findE (match R[t]? with | some r => stepE (t : Int) (machE S R t) r | none => machE S R t) (b, (l : Int))
    rw [← story_loop, ih b l, hr]
    dsimp only
    generalize hE : machE S R t = E at *
    rw [stepR_eq hr]
    unfold stepE
    dsimp only
    by_cases hw : who < 0
    · rw [if_pos hw, if_pos hw, findE_filter]
      dsimp only
      by_cases hl : 0 < (l : Int)
      · rw [if_pos hl, if_neg (by omega)]
      · rw [if_neg hl, if_pos (by omega)]
    rw [if_neg hw, if_neg hw, findE_set]
    by_cases hk : who = b ∧ deep = (l : Int)
    · obtain ⟨rfl, rfl⟩ := hk
      rw [if_pos ⟨rfl, rfl⟩, if_pos rfl, findE_back]
      cases findE E (who, (l : Int)) with
      | some x => rfl
      | none =>
        dsimp only
        rw [if_neg]
        intro e
        have := congrArg Prod.snd e.1
        dsimp only at this
        omega
    · rw [if_neg hk, if_neg (fun e => hk ⟨(congrArg Prod.fst e).symm, (congrArg Prod.snd e).symm⟩), findE_back]
      cases hf : findE E (b, (l : Int)) with
      | some x =>
        rw [if_neg]
        rintro ⟨_, _, e⟩
        exact Bool.false_ne_true e
      | none =>
        dsimp only
        by_cases hk2 : who = b ∧ deep + 1 = (l : Int)
        · obtain ⟨rfl, h2⟩ := hk2
          obtain ⟨d, rfl⟩ : ∃ d : Nat, deep = (d : Int) := ⟨deep.toNat, by omega⟩
          have hl : l = d + 1 := by omega
          subst hl
          rw [if_pos ⟨rfl, h2, rfl⟩]
          have hp : prevR S R who (d + 1) t = findE E (who, (d : Int)) := ih who d
          rw [hp]
          cases hfe : findE E (who, (d : Int)) with
          | none =>
            have ho : oldE E (who, (d : Int)) = emptyD := by unfold oldE; rw [hfe]
            rw [ho]
            dsimp only
            by_cases he : PyData.eqv emptyD v = false
            · rw [if_pos he, if_pos ⟨by rw [← h2], he⟩]
            · rw [if_neg he, if_neg fun e => he e.2]
          | some x =>
            obtain ⟨q, y⟩ := x
            have ho : oldE E (who, (d : Int)) = y := by unfold oldE; rw [hfe]
            rw [ho]
            dsimp only
            by_cases he : PyData.eqv y v = false
            · rw [if_pos he, if_pos ⟨by rw [← h2], he⟩]
            · rw [if_neg he, if_neg fun e => he e.2]
        · rw [if_neg fun e => hk2 ⟨e.1, e.2.1⟩, if_neg fun e => hk2 ⟨(congrArg Prod.fst e.1).symm, (congrArg Prod.snd e.1).symm⟩]
def bk (e : Ent) : Int := 100 * e.1.1 + e.1.2
def KeyOk (e : Ent) : Prop := (0 ≤ e.1.2 ∧ e.1.2 < 100) ∧ (0 ≤ e.2.1.1 ∧ e.2.1.1 ≤ 3) ∧ 0 ≤ e.2.1.2 ∧ e.2.1.2 ≤ 4
structure Fine (c : Int) (E : List Ent) : Prop where
  inc : E.Pairwise fun a b => bk a < bk b
  bnd : ∀ e ∈ E, bk e < c
  key : ∀ e ∈ E, KeyOk e
  nod : (E.map (·.2.1)).Nodup
theorem findE_none {E : List Ent} {k : Int × Int} (h : findE E k = none) : k ∉ E.map (·.2.1) := by
  induction E with
  | nil => simp
  | cons q E ih =>
    rw [findE_cons] at h
    by_cases e : q.2.1 = k
    · rw [if_pos e] at h; cases h
    · rw [if_neg e] at h
      rw [List.map_cons, List.mem_cons]
      rintro (e2 | hm)
      · exact e e2.symm
      · exact ih h hm
theorem findE_mem {E : List Ent} {k : Int × Int} {x : (Int × Int) × PyData} (h : findE E k = some x) : (x.1, k, x.2) ∈ E := by
  induction E with
  | nil => cases h
  | cons q E ih =>
    rw [findE_cons] at h
    by_cases e : q.2.1 = k
    · rw [if_pos e] at h
      obtain rfl := Option.some.inj h
      rw [← e]; exact .head _
    · rw [if_neg e] at h
      exact .tail _ (ih h)
theorem mem_findE {E : List Ent} (hn : (E.map (·.2.1)).Nodup) {e : Ent} (h : e ∈ E) : findE E e.2.1 = some (e.1, e.2.2) := by
  induction E with
  | nil => cases h
  | cons q E ih =>
    rw [findE_cons]
    rcases List.mem_cons.mp h with rfl | h
    · rw [if_pos rfl]
    · rw [if_neg, ih (List.nodup_cons.mp hn).2 h]
      intro e2
      refine (List.nodup_cons.mp hn).1 ?_
      show q.2.1 ∈ _
      rw [e2]; exact List.mem_map_of_mem (f := fun r : Ent => r.2.1) h
theorem Fine.weak {c c' : Int} {E : List Ent} (h : Fine c E) (hc : c ≤ c') : Fine c' E := ⟨h.inc, fun e he => Int.lt_of_lt_of_le (h.bnd e he) hc, h.key, h.nod⟩
theorem Fine.snoc {c : Int} {E : List Ent} {r : Ent} (h : Fine c E) (hb : bk r = c) (hk : KeyOk r) (hf : findE E r.2.1 = none) : Fine (c + 1) (E ++ [r]) := by
  refine ⟨List.pairwise_append.mpr ⟨h.inc, List.pairwise_singleton _ _, fun a ha b hb' => ?_⟩, fun e he => ?_, fun e he => ?_, ?_⟩
  · rw [List.mem_singleton.mp hb', hb]; exact h.bnd a ha
  · rcases List.mem_append.mp he with he | he
    · have := h.bnd e he; omega
    · rw [List.mem_singleton.mp he, hb]; omega
  · rcases List.mem_append.mp he with he | he
    · exact h.key e he
    · rw [List.mem_singleton.mp he]; exact hk
  · rw [List.map_append]
    refine List.nodup_append.mpr ⟨h.nod, by simp, fun a ha b hb' => ?_⟩
    rw [List.map_cons, List.map_nil, List.mem_singleton] at hb'
    rintro rfl
    exact findE_none hf (hb' ▸ ha)
theorem Fine.filter {c : Int} {E : List Ent} (h : Fine c E) (q : Ent → Bool) : Fine c (E.filter q) :=
  ⟨h.inc.filter q, fun e he => h.bnd e (List.mem_filter.mp he).1, fun e he => h.key e (List.mem_filter.mp he).1, h.nod.sublist (List.Sublist.map _ List.filter_sublist)⟩
theorem Fine.upd {c : Int} {E : List Ent} {k : Int × Int} {v : PyData} (h : Fine c E) : Fine c (E.map fun r => if r.2.1 = k then (r.1, r.2.1, v) else r) := by
  have f1 : ∀ r : Ent, bk (if r.2.1 = k then (r.1, r.2.1, v) else r) = bk r := fun r => by split <;> rfl
  have f2 : ∀ r : Ent, (if r.2.1 = k then (r.1, r.2.1, v) else r : Ent).2.1 = r.2.1 := fun r => by split <;> rfl
  refine ⟨?_, fun e he => ?_, fun e he => ?_, ?_⟩
  · rw [List.pairwise_map]
    exact h.inc.imp fun {a b} hab => by rw [f1, f1]; exact hab
  · obtain ⟨r, hr, rfl⟩ := List.mem_map.mp he
    rw [f1]; exact h.bnd r hr
  · obtain ⟨r, hr, rfl⟩ := List.mem_map.mp he
    have := h.key r hr
    split <;> exact this
  · rw [List.map_map, show ((fun r : Ent => r.2.1) ∘ fun r : Ent => if r.2.1 = k then (r.1, r.2.1, v) else r) = fun r => r.2.1 from funext f2]
    exact h.nod
theorem Fine.set {c : Int} {E : List Ent} {born k : Int × Int} {v : PyData} (h : Fine c E) (hb : bk (born, k, v) = c) (hk : KeyOk (born, k, v)) : Fine (c + 1) (setE E born k v) := by
  unfold setE
  cases hf : findE E k with
  | some x => exact (h.upd).weak (by omega)
  | none => exact h.snoc hb hk hf
theorem Fine.back {t : Int} {E : List Ent} {k : Int × Int} {v : PyData} (h : Fine (100 * t) E) (hk : (0 ≤ k.1 ∧ k.1 ≤ 3) ∧ 0 ≤ k.2 ∧ k.2 ≤ 3) : Fine (100 * t + 1) (backE t E k v) := by
  unfold backE
  split
  · rename_i hc
    refine h.snoc (by show 100 * t + 0 = _; omega) ⟨⟨by show (0 : Int) ≤ 0; decide, by show (0 : Int) < 100; decide⟩, hk.1, by dsimp only; omega, by dsimp only; omega⟩ ?_
    cases hf : findE E (k.1, k.2 + 1) with
    | none => rfl
    | some x => rw [hf] at hc; cases hc.2
  · exact h.weak (by omega)
theorem Fine.step {t : Int} {E : List Ent} {r : Row3} (h : Fine (100 * t) E) (hr : RowOk r) : Fine (100 * (t + 1)) (stepE t E r) := by
  unfold stepE
  split
  · exact (h.filter _).weak (by omega)
  · rename_i hw
    have hk : (0 ≤ r.1 ∧ r.1 ≤ 3) ∧ 0 ≤ r.2.1 ∧ r.2.1 ≤ 3 := ⟨hr.1.resolve_left (by omega), hr.2.1, hr.2.2.1⟩
    exact ((h.back (k := (r.1, r.2.1)) (v := r.2.2) hk).set (by show 100 * t + 1 = _; omega) ⟨⟨by show (0 : Int) ≤ 1; decide, by show (1 : Int) < 100; decide⟩, hk.1, hk.2.1, by dsimp only; omega⟩).weak (by omega)
theorem fine_ini {S : List Row3} (hd : (S.map fun r => (r.1, r.2.1)).Nodup) (hr : ∀ r ∈ S, (0 ≤ r.1 ∧ r.1 ≤ 3) ∧ 0 ≤ r.2.1 ∧ r.2.1 ≤ 4) (hl : S.length ≤ 50) : ∀ i, i ≤ S.length → Fine (-100 + (i : Int)) (iniE S i)
  | 0, _ => ⟨.nil, fun e h => (nomatch h), fun e h => (nomatch h), .nil⟩
  | i + 1, hi => by
    have h := fine_ini hd hr hl i (by omega)
    have hil : i < S.length := by omega
    show Fine _ (iniE S i ++ (match S[i]? with | some (b, l, v) => [((-1, (i : Int)), (b, l), v)] | none => []))
    rw [List.getElem?_eq_getElem hil]
    have hm := hr _ (List.getElem_mem hil)
    have := h.snoc (r := ((-1, (i : Int)), (S[i].1, S[i].2.1), S[i].2.2)) (by show 100 * (-1) + (i : Int) = _; omega) ⟨⟨by dsimp only; omega, by dsimp only; omega⟩, hm.1, hm.2.1, hm.2.2⟩ (by
      rw [← ini_story hd _ _ i (by omega)]
      have none_of : ∀ j, j ≤ i → iniR S S[i].1 S[i].2.1 j = none := by
        intro j hj
        induction j with
        | zero => rfl
        | succ j ihj =>
          have hjl : j < S.length := by omega
          rw [iniR_no (List.getElem?_eq_getElem hjl), ihj (by omega)]
          intro e
          have hpw := List.pairwise_iff_getElem.mp hd j i (by rw [List.length_map]; exact hjl) (by rw [List.length_map]; exact hil) (by omega)
          rw [List.getElem_map, List.getElem_map] at hpw
          exact hpw (Prod.ext e.1 e.2)
      exact none_of i (Nat.le_refl _))
    exact this.weak (by omega)
theorem fine_mach {S R : List Row3} (hd : (S.map fun r => (r.1, r.2.1)).Nodup) (hr : ∀ r ∈ S, (0 ≤ r.1 ∧ r.1 ≤ 3) ∧ 0 ≤ r.2.1 ∧ r.2.1 ≤ 4) (hl : S.length ≤ 50) (hR : ∀ r ∈ R, RowOk r) : ∀ t, t ≤ R.length → Fine (100 * (t : Int)) (machE S R t)
  | 0, _ => (fine_ini hd hr hl S.length (Nat.le_refl _)).weak (by omega)
  | t + 1, ht => by
    have h := fine_mach hd hr hl hR t (by omega)
    show Fine _ (match R[t]? with | some r => stepE (t : Int) (machE S R t) r | none => machE S R t)
    rw [List.getElem?_eq_getElem (show t < R.length by omega)]
    exact (h.step (hR _ (List.getElem_mem _))).weak (by omega)
def rowOut (r : Ent) : Str × PyData := (nameS r.2.1.1 r.2.1.2, r.2.2)
theorem get_out {E : List Ent} (hk : ∀ e ∈ E, KeyOk e) {b l : Int} (hb : 0 ≤ b ∧ b ≤ 3) (hl : 0 ≤ l ∧ l ≤ 5) : getC (E.map rowOut) (nameS b l) = (findE E (b, l)).map (·.2) := by
  induction E with
  | nil => rfl
  | cons q E ih =>
    have ih := ih fun e he => hk e (.tail _ he)
    obtain ⟨_, q1, q2, q3⟩ := hk q (.head _)
    rw [findE_cons]
    unfold getC at ih ⊢
    by_cases h : q.2.1 = (b, l)
    · rw [if_pos h, List.map_cons, List.find?_cons_of_pos (by show decide (nameS q.2.1.1 q.2.1.2 = nameS b l) = true; rw [h]; simp)]
      rfl
    · rw [if_neg h, List.map_cons, List.find?_cons_of_neg (by
        show ¬ decide (nameS q.2.1.1 q.2.1.2 = nameS b l) = true
        rw [decide_eq_true_eq]
        intro e
        obtain ⟨e1, e2⟩ := name_eq q1 hb ⟨q2, by omega⟩ hl e
        exact h (Prod.ext e1 e2))]
      exact ih
theorem has_out {E : List Ent} (hk : ∀ e ∈ E, KeyOk e) {b l : Int} (hb : 0 ≤ b ∧ b ≤ 3) (hl : 0 ≤ l ∧ l ≤ 5) : hasC (E.map rowOut) (nameS b l) = (findE E (b, l)).isSome := by
  rw [← getC_isSome, get_out hk hb hl]
  cases findE E (b, l) <;> rfl
theorem put_out {E : List Ent} (hk : ∀ e ∈ E, KeyOk e) {b l : Int} (hb : 0 ≤ b ∧ b ≤ 3) (hl : 0 ≤ l ∧ l ≤ 5) (born : Int × Int) (v : PyData) : putC (E.map rowOut) (nameS b l) v = (setE E born (b, l) v).map rowOut := by
  unfold putC setE
  rw [has_out hk hb hl]
  by_cases h : (findE E (b, l)).isSome = true
  · rw [if_pos h, if_pos h, List.map_map, List.map_map]
    refine List.map_congr_left fun e he => ?_
    obtain ⟨_, q1, q2, q3⟩ := hk e he
    show (if nameS e.2.1.1 e.2.1.2 = nameS b l then (nameS e.2.1.1 e.2.1.2, v) else rowOut e) = rowOut (if e.2.1 = (b, l) then (e.1, e.2.1, v) else e)
    by_cases h2 : e.2.1 = (b, l)
    · rw [if_pos (by rw [h2]), if_pos h2]; rfl
    · rw [if_neg h2, if_neg]
      intro e3
      obtain ⟨e1, e2⟩ := name_eq q1 hb ⟨q2, by omega⟩ hl e3
      exact h2 (Prod.ext e1 e2)
  · rw [if_neg h, if_neg h, List.map_append]
    rfl
theorem filter_out {E : List Ent} (hk : ∀ e ∈ E, KeyOk e) : (E.map rowOut).filter keepC = (E.filter fun e => decide (e.2.1.2 ≤ 0)).map rowOut := by
  rw [List.filter_map]
  congr 1
  refine List.filter_congr fun e he => ?_
  obtain ⟨_, q1, q2, q3⟩ := hk e he
  show (!Txt.startswith (nameS e.2.1.1 e.2.1.2) preS) = decide (e.2.1.2 ≤ 0)
  rw [name_start q1 q2 (by omega)]
  by_cases h : 0 < e.2.1.2
  · rw [decide_eq_true h, decide_eq_false (by omega)]; rfl
  · rw [decide_eq_false h, decide_eq_true (by omega)]; rfl
theorem old_out {E : List Ent} (hk : ∀ e ∈ E, KeyOk e) {b l : Int} (hb : 0 ≤ b ∧ b ≤ 3) (hl : 0 ≤ l ∧ l ≤ 5) : (getC (E.map rowOut) (nameS b l)).getD (.str (PySem.Str.ofString "")) = oldE E (b, l) := by
  rw [get_out hk hb hl]
  unfold oldE
  cases h : findE E (b, l) with
  | none => rfl
  | some x => rfl
theorem step_out {t : Int} {E : List Ent} {r : Row3} (h : Fine (100 * t) E) (hr : RowOk r) : runStep (E.map rowOut) r = (stepE t E r).map rowOut := by
  unfold runStep stepE
  by_cases hw : r.1 < 0
  · rw [if_pos hw, if_pos hw, filter_out h.key]
  · rw [if_neg hw, if_neg hw]
    have hb : 0 ≤ r.1 ∧ r.1 ≤ 3 := hr.1.resolve_left (by omega)
    have hl1 := hr.2.1
    have hl2 := hr.2.2.1
    have hback := h.back (k := (r.1, r.2.1)) (v := r.2.2) ⟨hb, hl1, hl2⟩
    rw [← put_out hback.key hb ⟨hl1, by omega⟩]
    unfold saveC
    rw [old_out h.key hb ⟨hl1, by omega⟩, pre_name hl1 (by omega), has_out h.key hb ⟨by omega, by omega⟩]
    congr 1
    unfold backE
    by_cases hc : PyData.eqv (oldE E (r.1, r.2.1)) r.2.2 = false ∧ (findE E (r.1, r.2.1 + 1)).isSome = false
    · rw [if_pos hc, if_pos hc]
      have hno : findE E (r.1, r.2.1 + 1) = none := by
        cases hf : findE E (r.1, r.2.1 + 1) with
        | none => rfl
        | some x => rw [hf] at hc; cases hc.2
      rw [put_out h.key hb ⟨by omega, by omega⟩ (t, 0)]
      unfold setE
      rw [hno, if_neg (by simp)]
    · rw [if_neg hc, if_neg hc]
theorem ini_out {S : List Row3} (hd : (S.map fun r => (r.1, r.2.1)).Nodup) (hr : ∀ r ∈ S, (0 ≤ r.1 ∧ r.1 ≤ 3) ∧ 0 ≤ r.2.1 ∧ r.2.1 ≤ 4) (hl : S.length ≤ 50) : ∀ i, i ≤ S.length → cfgS (S.take i) = (iniE S i).map rowOut
  | 0, _ => by rw [List.take_zero]; rfl
  | i + 1, hi => by
    have ih := ini_out hd hr hl i (by omega)
    have hil : i < S.length := by omega
    have hf := fine_ini hd hr hl i (by omega)
    have hf1 := fine_ini hd hr hl (i + 1) hi
    have hm := hr _ (List.getElem_mem hil)
    have hes : iniE S (i + 1) = iniE S i ++ [((-1, (i : Int)), (S[i].1, S[i].2.1), S[i].2.2)] := by
      show iniE S i ++ (match S[i]? with | some (b, l, v) => [((-1, (i : Int)), (b, l), v)] | none => []) = _
      rw [List.getElem?_eq_getElem hil]
    have hno : findE (iniE S i) (S[i].1, S[i].2.1) = none := by
      cases hfe : findE (iniE S i) (S[i].1, S[i].2.1) with
      | none => rfl
      | some x =>
        have hmem := findE_mem hfe
        have nd := hf1.nod
        rw [hes, List.map_append] at nd
        exact absurd rfl ((List.nodup_append.mp nd).2.2 _ (List.mem_map_of_mem (f := fun r : Ent => r.2.1) hmem) (S[i].1, S[i].2.1) (by simp))
    rw [cfgS_take (List.getElem?_eq_getElem hil), ih, put_out hf.key hm.1 ⟨hm.2.1, by omega⟩ (-1, (i : Int)), hes]
    unfold setE
    rw [hno, if_neg (by simp)]
theorem mach_out {S R : List Row3} (hd : (S.map fun r => (r.1, r.2.1)).Nodup) (hr : ∀ r ∈ S, (0 ≤ r.1 ∧ r.1 ≤ 3) ∧ 0 ≤ r.2.1 ∧ r.2.1 ≤ 4) (hl : S.length ≤ 50) (hR : ∀ r ∈ R, RowOk r) : ∀ t, t ≤ R.length → cfgR (cfgS S) (R.take t) = (machE S R t).map rowOut
  | 0, _ => by
    have := ini_out hd hr hl S.length (Nat.le_refl _)
    rw [List.take_length] at this
    rw [List.take_zero]
    exact this
  | t + 1, ht => by
    have ih := mach_out hd hr hl hR t (by omega)
    have htl : t < R.length := by omega
    rw [cfgR_take (List.getElem?_eq_getElem htl), ih, step_out (fine_mach hd hr hl hR t (by omega)) (hR _ (List.getElem_mem htl))]
    show _ = List.map rowOut (match R[t]? with | some r => stepE (t : Int) (machE S R t) r | none => machE S R t)
    rw [List.getElem?_eq_getElem htl]
open_top hd for PySem.Challenge.rw_sn0001_01
/-- the contracts were walked with the top's lines off -/
theorem topOff : True := by
  w_top off
  trivial
abbrev PX : Program := PySem.Challenge.rw_sn0001_01.row.prog
section
variable {pv : Program} {w : World} {dp un : Nat} {gd : Option (List Code)} {cn : Str} {cs : Scope} {a : Addr} {ccd : Value} {cl : List (Str × Addr)} {outer : List Env} {A₀ : Around} {base h₀ : Heap} {L : Addr} {m : Str → Option Value} {s : Shared} {Q E : Value → Shared → Prop} {loose : List Str} {mean : ExcName → Option Value} {mg mb : Str → Option Value} {rest : List (Addr × Obj)}
local macro_rules | `(tactic| walk_at "getMethod ref") => `(tactic| (k_here; k_dflt (refine' cfg_method ?N ?mm ?D ?_; (case N => k_asm); (case mm => k_mem); (case D => k_asm); k_whole)))
local macro_rules | `(tactic| walk_at "call builtin:dict.get") => `(tactic| (k_here; k_dflt (refine' cfg_get ?N ?mm ?D ?lo ?f ?sd ?_; (case N => k_asm); (case mm => k_mem); (case D => k_asm); (case lo => k_asm); (case f => k_flat); (case sd => decide +kernel); k_whole; intro u' hu' hs')))
local macro_rules | `(tactic| walk_at "compareOp NotEq") => `(tactic| (k_here; k_dflt (refine' flat_ne ?f ?g ?a ?b ?r ?_; (case f => k_asm); (case g => k_asm); (case a => k_asm); (case b => k_asm); (case r => ktr_units); k_whole)))
local macro_rules | `(tactic| walk_at "compareOp NotIn") => `(tactic| (k_here; k_dflt (refine' cfg_notin ?N ?mm ?D ?lo ?_; (case N => k_asm); (case mm => k_mem); (case D => k_asm); (case lo => k_asm); k_whole)))
local macro_rules | `(tactic| walk_at "setItem ref") => `(tactic| (k_here; k_dflt (refine' cfg_set ?F ?N ?U ?D ?v ?s ?c ?_; (case F => k_asm); (case N => k_asm); (case U => k_updF); (case D => k_asm); (case v => k_asm); (case s => k_asm); (case c => first | omega | exact Nat.le_trans (putC_length _ _ _) (by omega)); k_whole); intro h' o' F' N' D'))
local macro_rules | `(tactic| k_all) => `(tactic| assumption)
local macro_rules | `(tactic| walk_at "delItem ref") => `(tactic| (k_here; k_dflt (refine' cfg_del ?F ?N ?U ?D ?k ?c ?_; (case F => k_asm); (case N => k_asm); (case U => k_updF); (case D => k_asm); (case k => k_asm); (case c => k_asm); k_whole); intro h' o' F' N' D'))
local macro_rules | `(tactic| walk_at "call type:list") => `(tactic| (k_here; k_dflt (refine' cfg_list ?hh ?F ?N ?mm ?D ?lo ?c ?_; (case hh => exact rfl); (case F => k_asm); (case N => k_asm); (case mm => k_mem); (case D => k_asm); (case lo => k_asm); (case c => omega); k_whole); intro B' n' h' tk' vs' F' N' l1 S'))
theorem save_spec {d : Addr} {o : Obj} {c : Cfg} {cv : Str} {t : Tok} {v : Value} {dv : PyData}
   (B : Below A₀ base outer h₀) (F : Fr h₀ L s.heap m) (X : (hd.heap_39 w.params).In h₀) (T : Top pv loose mean mg mb h₀) (hk : cs.kind = .function) (N : News h₀ L s.heap ((d, o) :: rest)) (hd : dp + 1 < recursionLimit) (hu : un + 100 < cLine)
   (hne : ∀ p ∈ rest, p.1 ≠ d) (hlo : (d == sysModules) = false)
   (hD : IsCfg PX w o c) (hV : Flat v dv) (hS : SeqAt.shaped dv = true) (hlen : c.length ≤ 1000) (hcv : cv.length ≤ 1000)
   (hret : ∀ h' tk' o', Fr h₀ L h' m → News h₀ L h' ((d, o') :: rest) → IsCfg PX w o' (saveC c cv dv) → Q .none { s with heap := h', toks := tk' }) :
   wpAny (model PX w) (ktrTop dp un gd cn cs L a ccd cl outer) (call (.ref 28) [.ref d, .str cv t, v]) Q E s := by
  refine wpAny_call ?_
  k_dflt cell_enter
  k_steps
  · exact hret _ _ _ (by k_asm) (by k_asm) (by rw [saveC_same (by assumption)]; assumption)
  · exact hret _ _ _ (by k_asm) (by k_asm) (by rw [saveC_had (by assumption)]; assumption)
  · exact hret _ _ _ (by k_asm) (by k_asm) (by rw [saveC_new (by assumption) (by assumption)]; assumption)
theorem remove_spec {d : Addr} {o : Obj} {c : Cfg}
   (B : Below A₀ base outer h₀) (F : Fr h₀ L s.heap m) (X : (hd.heap_39 w.params).In h₀) (T : Top pv loose mean mg mb h₀) (hk : cs.kind = .function) (N : News h₀ L s.heap ((d, o) :: rest)) (hd : dp + 1 < recursionLimit) (hu : un + 100 < cLine)
   (hne : ∀ p ∈ rest, p.1 ≠ d) (hlo : (d == sysModules) = false)
   (hD : IsCfg PX w o c) (hlen : c.length ≤ 1000)
   (hret : ∀ h' tk' o', Fr h₀ L h' m → News h₀ L h' ((d, o') :: rest) → IsCfg PX w o' (c.filter keepC) → Q .none { s with heap := h', toks := tk' }) :
   wpAny (model PX w) (ktrTop dp un gd cn cs L a ccd cl outer) (call (.ref 21) [.ref d]) Q E s := by
  refine wpAny_call ?_
  k_dflt cell_enter
  k_steps
  rename_i B9 n9 h9 tk9 vs9 F9 N9 l9 S9
  have hB9 := ltN (l9 _ (.head _))
  dsimp only at hB9
  k_dflt (refine loopL (σ := Obj) (fun o => [(B9, listOf vs9.toArray n9), (d, o)] ++ rest) (fun _ => []) [] (fun i o => IsCfg PX w o (remC c i)) o rfl (fun _ => .head _) F9 N9 (fun _ h => nomatch h) hD ?_ ?_)
  · intro i v o1 u h tk own hv hoff hP F N
    obtain ⟨k, t, hki, rfl⟩ := StrsAre.at' S9 hv
    rw [List.getElem?_map] at hki
    obtain ⟨⟨k', dv⟩, hci, hk'⟩ := Option.map_eq_some_iff.mp hki
    have hk' : k' = k := hk'
    subst hk'
    have hk1 := remC_has hci
    have hc1 : (remC c i).length ≤ 16777216 := Nat.le_trans (remC_length c i) (by omega)
    have hne1 : ∀ p ∈ rest ++ own, p.1 ≠ d := fun p hp => (List.mem_append.mp hp).elim (hne p) fun hp => hoff p hp d (.tail _ (.head _))
    simp only [List.cons_append, List.nil_append] at N
    k_steps
    · rename_i h2 o2 F2 N2 D2
      refine loop_endA (σ := Obj) o2 F2 N2 hoff (fun _ h => nomatch h) (fun z h1 _ _ => by simp [h1, kstB]) ?_
      rw [← remC_del hci hD.nodup (by assumption)]
      assumption
    · refine loop_endA (σ := Obj) o1 F N hoff (fun _ h => nomatch h) (fun z h1 _ _ => by simp [h1, kstB]) ?_
      rw [remC_keep hci (by assumption)]
      assumption
  · intro o1 u h tk hP F N
    rw [StrsAre.len S9, List.length_map, remC_all] at hP
    k_steps
    exact hret _ _ _ (by k_asm) (News.sub (by k_asm) fun p hp => .tail _ hp) hP
theorem save_U {d : Addr} {o : Obj} {c : Cfg} {cv : Str} {t : Tok} {v : Value} {dv : PyData} {news : List (Addr × Obj)} {g : Obj → List (Addr × Obj)}
   (B : Below A₀ base outer h₀) (F : Fr h₀ L s.heap m) (X : (hd.heap_39 w.params).In h₀) (T : Top pv loose mean mg mb h₀) (hk : cs.kind = .function) (N : News h₀ L s.heap news) (U : UpdF d o news g) (hd : dp + 1 < recursionLimit) (hu : un + 100 < cLine)
   (hlo : (d == sysModules) = false)
   (hD : IsCfg PX w o c) (hV : Flat v dv) (hS : SeqAt.shaped dv = true) (hlen : c.length ≤ 1000) (hcv : cv.length ≤ 1000)
   (hret : ∀ h' tk' o', Fr h₀ L h' m → News h₀ L h' (g o') → IsCfg PX w o' (saveC c cv dv) → Q .none { s with heap := h', toks := tk' }) :
   wpAny (model PX w) (ktrTop dp un gd cn cs L a ccd cl outer) (call (.ref 28) [.ref d, .str cv t, v]) Q E s := by
  obtain ⟨pre, post, rfl, hg, a1, b1⟩ := U.split
  exact save_spec (rest := pre ++ post) B F X T hk (News.sub N (mem_first pre post)) hd hu (ne_both a1 b1) hlo hD hV hS hlen hcv
    fun h' tk' o' F' N' D' => hret h' tk' o' F' (by rw [hg]; exact News.sub N' (mem_back pre post)) D'
theorem remove_U {d : Addr} {o : Obj} {c : Cfg} {news : List (Addr × Obj)} {g : Obj → List (Addr × Obj)}
   (B : Below A₀ base outer h₀) (F : Fr h₀ L s.heap m) (X : (hd.heap_39 w.params).In h₀) (T : Top pv loose mean mg mb h₀) (hk : cs.kind = .function) (N : News h₀ L s.heap news) (U : UpdF d o news g) (hd : dp + 1 < recursionLimit) (hu : un + 100 < cLine)
   (hlo : (d == sysModules) = false)
   (hD : IsCfg PX w o c) (hlen : c.length ≤ 1000)
   (hret : ∀ h' tk' o', Fr h₀ L h' m → News h₀ L h' (g o') → IsCfg PX w o' (c.filter keepC) → Q .none { s with heap := h', toks := tk' }) :
   wpAny (model PX w) (ktrTop dp un gd cn cs L a ccd cl outer) (call (.ref 21) [.ref d]) Q E s := by
  obtain ⟨pre, post, rfl, hg, a1, b1⟩ := U.split
  exact remove_spec (rest := pre ++ post) B F X T hk (News.sub N (mem_first pre post)) hd hu (ne_both a1 b1) hlo hD hlen
    fun h' tk' o' F' N' D' => hret h' tk' o' F' (by rw [hg]; exact News.sub N' (mem_back pre post)) D'
end
section
variable {pv : Program} {w : World} {dp un : Nat} {gd : Option (List Code)} {cn : Str} {cs : Scope} {a : Addr} {ccd : Value} {cl : List (Str × Addr)} {outer : List Env} {A₀ : Around} {base h₀ : Heap} {L : Addr} {m : Str → Option Value} {s : Shared} {Q E : Value → Shared → Prop} {loose : List Str} {mean : ExcName → Option Value} {mg mb : Str → Option Value} {rest : List (Addr × Obj)}
local macro_rules | `(tactic| walk_at "binaryOp Mult str int") => `(tactic| (k_here; k_dflt (refine' mul_pre ?h0 ?h5 ?_; (case h0 => omega); (case h5 => omega); k_whole); intro t' k'))
local macro_rules | `(tactic| walk_at "subscriptTail") => `(tactic| (k_here; (with_reducible show wpAny _ _ (subscriptTail _ _ (Value.ref _) (Value.int _ _)) _ _ _); k_dflt (refine' menuB ?N ?mm ?h0 ?h3 ?_; (case N => k_asm); (case mm => k_mem); (case h0 => omega); (case h3 => omega); k_whole); intro t'))
local macro_rules | `(tactic| walk_at "binaryOp Add str str") => `(tactic| (k_here; k_dflt (refine' PyProof.Rows.add_str ?_ ?z; (case z => (rw [sizeLine_eq]; omega)); k_whole); intro t' k'))
theorem name_spec {b l : Int} {tb tl : Tok} {news : List (Addr × Obj)}
   (B : Below A₀ base outer h₀) (F : Fr h₀ L s.heap m) (X : (hd.heap_39 w.params).In h₀) (T : Top pv loose mean mg mb h₀) (hk : cs.kind = .function) (N : News h₀ L s.heap news) (hd : dp + 1 < recursionLimit) (hu : un + 100 < cLine)
   (hb : 0 ≤ b ∧ b ≤ 3) (hl : 0 ≤ l ∧ l ≤ 5)
   (hret : ∀ h' tk' t, Fr h₀ L h' m → News h₀ L h' news → Q (.str (nameS b l) t) { s with heap := h', toks := tk' }) :
   wpAny (model PX w) (ktrTop dp un gd cn cs L a ccd cl outer) (call (.ref 35) [.int b tb, .int l tl]) Q E s := by
  have hml := mul_len hl.1 hl.2
  have hbl := baseS_len b
  refine wpAny_call ?_
  k_dflt cell_enter
  k_steps
  all_goals exact hret _ _ _ (by k_asm) (by first | k_asm | (exact News.drop1 (by k_asm)))
local macro_rules | `(tactic| walk_at "subscriptTail") => `(tactic| (k_here; (with_reducible show wpAny _ _ (subscriptTail _ _ (Value.ref _) (Value.int _ _)) _ _ _); k_dflt (refine' menuD ?N ?mm ?h0 ?h3 ?_; (case N => k_asm); (case mm => k_mem); (case h0 => omega); (case h3 => omega); k_whole); intro v' fv'))
theorem value_spec {b : Int} {tb : Tok} {news : List (Addr × Obj)}
   (B : Below A₀ base outer h₀) (F : Fr h₀ L s.heap m) (X : (hd.heap_39 w.params).In h₀) (T : Top pv loose mean mg mb h₀) (hk : cs.kind = .function) (N : News h₀ L s.heap news) (hd : dp + 1 < recursionLimit) (hu : un + 100 < cLine)
   (hret : ∀ h' tk' v, Fr h₀ L h' m → News h₀ L h' news → Flat v (valD (b.fmod 7)) → Q v { s with heap := h', toks := tk' }) :
   wpAny (model PX w) (ktrTop dp un gd cn cs L a ccd cl outer) (call (.ref 42) [.int b tb]) Q E s := by
  have h7a := Int.fmod_nonneg_of_pos b (b := 7) (by decide)
  have h7b := Int.fmod_lt_of_pos b (b := 7) (by decide)
  refine wpAny_call ?_
  k_dflt cell_enter
  k_steps
  all_goals exact hret _ _ _ (by k_asm) (by first | k_asm | (exact News.drop1 (by k_asm))) (by assumption)
end
local macro_rules | `(tactic| k_all) => `(tactic| first | with_reducible assumption | (refine allLt_ne ?_ (Nat.le_refl _); with_reducible assumption))
local macro_rules | `(tactic| k_allIn) => `(tactic| (intro p hp; k_ownIn))
local macro_rules | `(tactic| walk_at "eval Slice") => `(tactic| (k_here; (with_reducible rename NewPlain _ _ _ _ => gnP); (have gnX := gn_enter gnP (by assumption) (by assumption) (by assumption)); (obtain ⟨gnN, gnL, gnA⟩ := gnX); (have gnI := gn_intsOf gnP (by assumption)); clear gnP; (try simp only [GnNe, and_true] at gnA); (try dsimp only)))
local macro_rules | `(tactic| walk_at "call builtin:list.append") => `(tactic| (k_here; (with_reducible rename NewPlain _ _ _ _ => gnP); (have gnX := gn_enter gnP (by assumption) (by assumption) (by assumption)); (obtain ⟨gnN, gnL, gnA⟩ := gnX); (have gnI := gn_intsOf gnP (by assumption)); clear gnP; (try simp only [GnNe, and_true] at gnA); (try dsimp only)))
local macro_rules | `(tactic| walk_at "newList") => `(tactic| (k_here; k_dflt (refine' newList_K ?k1 ?k2 ?_ ?z; (case k1 => k_asm); (case k2 => k_asm); (case z => first | exact Nat.zero_le _ | size_fits); k_whole); intro l' h' F' N' l1; (try k_lt l1); (try k_sweep)))
local macro_rules | `(tactic| walk_at "exec For Name Call cons nil") => `(tactic| (k_here; (rename Fr _ _ _ _ => lF'); (with_unfolding_all refine' For_invVF lF' ?k1 ?k2 ?_; (case k1 => exact rfl); (case k2 => exact rfl); k_whole)))
def StoryOK (k : Nat) : Prop := ∀ {pv : Program} {w : World} {dp un : Nat} {gd : Option (List Code)} {cn : Str} {cs : Scope} {a : Addr} {ccd : Value} {cl : List (Str × Addr)} {outer : List Env} {A₀ : Around} {base h₀ : Heap} {L : Addr} {m : Str → Option Value} {s : Shared} {Q E : Value → Shared → Prop} {loose : List Str} {mean : ExcName → Option Value} {mg mb : Str → Option Value} {news : List (Addr × Obj)}
   {lS lR : Addr} {rs qs : List Value} {n1 n2 : Nat} {S R : List Row3} {b : Int} {u : Nat} {tb tk tu : Tok}
   (B : Below A₀ base outer h₀) (F : Fr h₀ L s.heap m) (X : (hd.heap_39 w.params).In h₀) (T : Top pv loose mean mg mb h₀) (hk : cs.kind = .function) (N : News h₀ L s.heap news) (hd : dp + k + 3 < recursionLimit) (hu : un + 100 * k + 200 < cLine)
   (mS : (lS, listOf rs.toArray n1) ∈ news) (mR : (lR, listOf qs.toArray n2) ∈ news) (rS : RowsAt news rs S) (rR : RowsAt news qs R)
   (hlen : S.length ≤ 100 ∧ R.length ≤ 100 ∧ u ≤ R.length) (hk4 : k ≤ 5) (hR : ∀ r ∈ R, 0 ≤ r.2.1 ∧ r.2.1 ≤ 3)
   (hret : ∀ h' tk' lF ex, Fr h₀ L h' m → News h₀ L h' (ex ++ news) → FoundAt lF ex (story S R b k u) → OwnOff ex (news.map (·.1)) → Q (.ref lF) { s with heap := h', toks := tk' }),
   wpAny (model PX w) (ktrTop dp un gd cn cs L a ccd cl outer) (call (.ref 49) [.ref lS, .ref lR, .int b tb, .int (k : Int) tk, .int (u : Int) tu]) Q E s
theorem story_use {pv : Program} {w : World} {dp un : Nat} {gd : Option (List Code)} {cn : Str} {cs : Scope} {a : Addr} {ccd : Value} {cl : List (Str × Addr)} {outer : List Env} {A₀ : Around} {base h₀ : Heap} {L : Addr} {m : Str → Option Value} {s : Shared} {Q E : Value → Shared → Prop} {loose : List Str} {mean : ExcName → Option Value} {mg mb : Str → Option Value} {news : List (Addr × Obj)}
   {lS lR : Addr} {rs qs : List Value} {n1 n2 : Nat} {S R : List Row3} {b zu : Int} {k u : Nat} {tb tk tu : Tok} (hI : StoryOK k)
   (B : Below A₀ base outer h₀) (F : Fr h₀ L s.heap m) (X : (hd.heap_39 w.params).In h₀) (T : Top pv loose mean mg mb h₀) (hk : cs.kind = .function) (N : News h₀ L s.heap news) (hd : dp + k + 3 < recursionLimit) (hu : un + 100 * k + 200 < cLine)
   (mS : (lS, listOf rs.toArray n1) ∈ news) (mR : (lR, listOf qs.toArray n2) ∈ news) (rS : RowsAt news rs S) (rR : RowsAt news qs R)
   (hlen : S.length ≤ 100 ∧ R.length ≤ 100 ∧ u ≤ R.length) (hk4 : k ≤ 5) (hR : ∀ r ∈ R, 0 ≤ r.2.1 ∧ r.2.1 ≤ 3) (hz : zu = (u : Int))
   (hret : ∀ h' tk' lF ex, Fr h₀ L h' m → News h₀ L h' (ex ++ news) → FoundAt lF ex (story S R b k u) → OwnOff ex (news.map (·.1)) → Q (.ref lF) { s with heap := h', toks := tk' }) :
   wpAny (model PX w) (ktrTop dp un gd cn cs L a ccd cl outer) (call (.ref 49) [.ref lS, .ref lR, .int b tb, .int (k : Int) tk, .int zu tu]) Q E s := by
  subst hz
  exact hI B F X T hk N hd hu mS mR rS rR hlen hk4 hR hret
section
variable {pv : Program} {w : World} {dp un : Nat} {gd : Option (List Code)} {cn : Str} {cs : Scope} {a : Addr} {ccd : Value} {cl : List (Str × Addr)} {outer : List Env} {A₀ : Around} {base h₀ : Heap} {L : Addr} {m : Str → Option Value} {s : Shared} {Q E : Value → Shared → Prop} {loose : List Str} {mean : ExcName → Option Value} {mg mb : Str → Option Value} {rest : List (Addr × Obj)}
local macro_rules | `(tactic| walk_at "subscriptTail Name Name ref int") => `(tactic| (k_here; k_dflt (refine' item_at ?N ⟨_, ?mm⟩ ?v ?z ?b ?_; (case N => k_asm); (case mm => k_mem); (case v => with_reducible assumption); (case z => omega); (case b => omega); k_whole)))
local macro_rules | `(tactic| k_mem) => `(tactic| (repeat (first | with_reducible assumption | refine List.mem_cons_of_mem _ ?_)); done)
local macro_rules | `(tactic| walk_at "call ref") => `(tactic| (k_here; k_dflt (refine' story_use ?I ?B ?F ?X ?T ?hk ?N ?hd ?hu ?mS ?mR ?rS ?rR ?len ?k4 ?hR ?z ?_; (case I => ((with_reducible rename _ → StoryOK _ => hI); exact hI (by assumption))); (case B => k_asm); (case F => k_asm); (case X => k_asm); (case T => k_asm); (case hk => first | exact rfl | assumption); (case N => k_asm); (case mS => k_mem); (case mR => k_mem); (case rS => first | with_reducible assumption | exact RowsAt.sub (by with_reducible assumption) (fun p hp => List.mem_cons_of_mem _ hp)); (case rR => first | with_reducible assumption | exact RowsAt.sub (by with_reducible assumption) (fun p hp => List.mem_cons_of_mem _ hp)); (case hR => with_reducible assumption); (case z => exact Int.zero_add _); (case len => omega); (case k4 => omega); (case hd => ktr_room); (case hu => ktr_units); k_whole); intro h' tk' lF' ex' F' N' FA' OF'; (rcases found_cases FA' with ⟨n', r', e'⟩ | ⟨x', y', dv', p', v', n', t', t2', k', r', e', f', sh'⟩) <;> (subst e'; (try simp only [List.cons_append, List.nil_append] at N'))))
local macro_rules | `(tactic| walk_at "compareOp NotEq") => `(tactic| (k_here; k_dflt (refine' flat_ne ?f ?g ?a ?b ?r ?_; (case f => first | with_reducible assumption | exact Flat.str _ _); (case g => with_reducible assumption); (case a => first | with_reducible assumption | decide +kernel); (case b => with_reducible assumption); (case r => ktr_units); k_whole)))
theorem story_step {k : Nat} (IH : ∀ d : Nat, d + 1 = k → StoryOK d) : StoryOK k := by
  intro pv w dp un gd cn cs a ccd cl outer A₀ base h₀ L m s Q E loose mean mg mb news lS lR rs qs n1 n2 S R b u tb tk tu B F X T hk N hd hu mS mR rS rR hlen hk4 hR hret
  have hrs := rS.1
  have hqs := rR.1
  refine wpAny_call ?_
  k_dflt cell_enter
  (repeat' ((fail_if_success (with_reducible show wpAny _ _ (pyIter (Value.ref _)) _ _ _)); (first | (k_unfold; (try dsimp only)) | (k_end; wrow_close) | walk1 | (dsimp only; walk1) | (leave1; walk_say "STEP leave1"; try dsimp only) | fail "no step")))
  k_dflt (refine KM.len_K (c := n1) (its := rs.toArray) (n := S.length) (by k_asm) (List.Mem.tail _ mS) (by rw [List.size_toArray, hrs]) (by omega) ?_)
  (repeat' ((fail_if_success (with_reducible show wpAny _ _ (pyIter (Value.ref _)) _ _ _)); (first | (k_unfold; (try dsimp only)) | (k_end; wrow_close) | walk1 | (dsimp only; walk1) | (leave1; walk_say "STEP leave1"; try dsimp only) | fail "no step")))
  (rename IsRange _ _ _ _ _ _ _ _ => R9)
  (rename Fr _ _ _ _ => F9)
  (rename News _ _ _ _ => N9)
  have hsm : Builtin.Range.small 0 (S.length : Int) 1 = true := small_one (by decide) (by decide) (by omega) (by omega)
  have hsz : Builtin.Range.rangeSize 0 (S.length : Int) 1 = ((S.length : Nat) : Int) := by rw [rangeSize_nat]; simp
  k_dflt (refine loopR (σ := Addr × List (Addr × Obj)) (n := S.length) (fun c => c.2 ++ news) (fun c => [(PySem.Str.ofString "found", .ref c.1)]) [] (fun i c => FoundAt c.1 c.2 (iniR S b k i) ∧ OwnOff c.2 (news.map (·.1))) (_, [_]) rfl R9 hsm hsz F9 N9 (by intro p hp; rw [List.mem_singleton.mp hp]; rfl) ⟨⟨_, rfl⟩, off_single ?_⟩ ?_ ?_)
  · intro b hb
    obtain ⟨q, hq, rfl⟩ := List.mem_map.mp hb
    (rename ∀ p ∈ news, p.1 < _ => lX)
    exact Nat.ne_of_gt (lX q hq)
  · rintro i t ⟨lF, ex⟩ uu h tk own hi hoff ⟨hP, offx⟩ F N
    obtain ⟨a, bb, ll, uv, t1, t2, nn, dv, e1, m1, e2, f1, sh1⟩ := rS.2 i _ (List.getElem?_eq_getElem (by omega))
    obtain ⟨led, hled⟩ : ∃ q, q = (ex ++ news) ++ own := ⟨_, rfl⟩
    have sub : ∀ p ∈ news, p ∈ led := fun p hp => by rw [hled]; exact List.mem_append_left _ (List.mem_append_right _ hp)
    have mS' := sub _ mS
    have m1' := sub _ m1
    have e1' : rs[i]? = some (Value.ref a) := by rw [← e1]; exact List.getElem?_eq_getElem (by omega)
    change News _ _ h ((ex ++ news) ++ own) at N
    rw [← hled] at N
    have subO : ∀ p ∈ own, p ∈ led := fun p hp => by rw [hled]; exact List.mem_append_right _ hp
    (repeat' ((fail_if_success (with_reducible show wpAny _ _ (pyIter (Value.ref _)) _ _ _)); (first | (k_unfold; (try dsimp only)) | (k_end; wrow_close) | walk1 | (dsimp only; walk1) | (leave1; walk_say "STEP leave1"; try dsimp only) | fail "no step")))
    · (rename Fr _ _ _ _ => FE)
      (rename News _ _ _ _ => NE)
      (rename _ ∧ AllLt _ _ => aL)
      (rename ∀ p ∈ led, p.1 < _ => aD)
      rename_i dN hA lN hB FA NA hC
      have hNE : ∃ oD, News _ _ _ ((lN, listOf #[.ref dN, uv] 0) :: (dN, oD) :: led) ∧ (∃ t1 t2 n, oD = ({ cls := .type "tuple", data := .seq #[.int (-1) t1, .int (0 + (i : Int)) t2] n } : Obj)) := ⟨_, NE, _, _, _, rfl⟩
      obtain ⟨oD, NE, ta, tb, nD, rfl⟩ := hNE
      refine loop_endX FE ⟨(lN, [(lN, listOf #[.ref dN, uv] 0), (dN, { cls := .type "tuple", data := .seq #[.int (-1) ta, .int (0 + (i : Int)) tb] nD })]), ⟨?_, ?_⟩, ?_, off_new2 (fun p hp => Nat.ne_of_lt (allLt_lt aL.2 p (subO p hp))) ?_ (off_base hoff), hasCons rfl hasNil, fun z h1 h2 h3 => (if_neg (h2 _ (.head _))).trans (kstO h1 (h2 _ (.head _)) h3)⟩
      · show FoundAt _ _ (iniR S b k (i + 1))
        rw [iniR_yes e2 ⟨by assumption, by assumption⟩]
        refine ⟨dN, uv, 0, ta, tb, nD, ?_, f1, sh1⟩
        rw [Int.zero_add]
      · exact off_pair (fun b hb => by
          obtain ⟨q, hq, rfl⟩ := List.mem_map.mp hb
          exact Nat.ne_of_gt (allLt_lt aL.2 q (sub q hq))) (fun b hb => by
          obtain ⟨q, hq, rfl⟩ := List.mem_map.mp hb
          exact Nat.ne_of_gt (aD q (sub q hq)))
      · intro p hp
        simp only [List.cons_append, List.nil_append, List.mem_cons, List.mem_append] at hp
        rcases hp with hp | hp | hp | hp
        · exact NE p (hp ▸ .head _)
        · exact NE p (hp ▸ .tail _ (.head _))
        · exact NE p (.tail _ (.tail _ (sub p hp)))
        · exact NE p (.tail _ (.tail _ (subO p hp)))
      · exact fun p hp => Nat.ne_of_lt (aD p (subO p hp))
    all_goals
      (rename Fr _ _ _ _ => FE)
      (rename News _ _ _ _ => NE)
      rw [hled] at NE
      first
      | exact loop_endX FE ⟨(lF, ex), ⟨by show FoundAt lF ex (iniR S b k (i + 1)); rw [iniR_no e2 (fun e => absurd e.2 (by assumption))]; exact hP, offx⟩, NE, hoff, hasCons rfl hasNil, fun z h1 h2 h3 => kstO h1 (h2 _ (.head _)) h3⟩
      | exact loop_endX FE ⟨(lF, ex), ⟨by show FoundAt lF ex (iniR S b k (i + 1)); rw [iniR_no e2 (fun e => absurd e.1 (by assumption))]; exact hP, offx⟩, NE, hoff, hasCons rfl hasNil, fun z h1 h2 h3 => kstO h1 (h2 _ (.head _)) h3⟩
  · rintro ⟨lF, ex⟩ uu h tk ⟨hP, offx⟩ F N
    dsimp only at hP offx N
    (repeat' ((fail_if_success (with_reducible show wpAny _ _ (pyIter (Value.ref _)) _ _ _)); (first | (k_unfold; (try dsimp only)) | (k_end; wrow_close) | walk1 | (dsimp only; walk1) | (leave1; walk_say "STEP leave1"; try dsimp only) | fail "no step")))
    (rename IsRange _ _ _ _ _ _ _ _ => R2)
    (rename Fr _ _ _ _ => F2)
    (rename News _ _ _ _ => N2)
    have hsm2 : Builtin.Range.small 0 (u : Int) 1 = true := small_one (by decide) (by decide) (by omega) (by omega)
    have hsz2 : Builtin.Range.rangeSize 0 (u : Int) 1 = ((u : Nat) : Int) := by rw [rangeSize_nat]; simp
    k_dflt (refine loopR (σ := Addr × List (Addr × Obj)) (n := u) (fun c => c.2 ++ news) (fun c => [(PySem.Str.ofString "found", .ref c.1)]) [PySem.Str.ofString "who", PySem.Str.ofString "deep", PySem.Str.ofString "value", PySem.Str.ofString "below", PySem.Str.ofString "ahead"] (fun i c => FoundAt c.1 c.2 (loopRes S R b k (prevR S R b k) i) ∧ OwnOff c.2 (news.map (·.1))) (lF, ex) rfl R2 hsm2 hsz2 F2 N2 (by intro p hp; rw [List.mem_singleton.mp hp]; rfl) ⟨hP, offx⟩ ?_ ?_)
    · rintro i t ⟨lG, ex2⟩ u2 h tk own hi hoff ⟨hP, offx⟩ F N
      change OwnOff ex2 (news.map (·.1)) at offx
      obtain ⟨a, who, deep, uv, t1, t2, nn, dv, e1, m1, e2, f1, sh1⟩ := rR.2 i _ (List.getElem?_eq_getElem (by omega))
      have e1' : qs[i]? = some (Value.ref a) := by rw [← e1]; exact List.getElem?_eq_getElem (by omega)
      have hdp := hR _ (List.mem_of_getElem? e2)
      obtain ⟨dn, rfl⟩ : ∃ dn : Nat, deep = (dn : Int) := ⟨deep.toNat, by dsimp only at hdp; omega⟩
      have ih : (dn : Int) + 1 = (k : Int) → StoryOK dn := fun h => IH dn (by omega)
      change FoundAt lG ex2 (loopRes S R b k (prevR S R b k) i) at hP
      change News _ _ h ((ex2 ++ news) ++ own) at N
      rcases hres : loopRes S R b k (prevR S R b k) i with _ | ⟨⟨x, y⟩, dw⟩
      · rw [hres] at hP
        obtain ⟨nF, rfl⟩ := hP
        obtain ⟨led, hled⟩ : ∃ q, q = news ++ own := ⟨_, rfl⟩
        rw [List.append_assoc, ← hled] at N
        have sub : ∀ p ∈ news, p ∈ led := fun p hp => by rw [hled]; exact List.mem_append_left _ hp
        have subO : ∀ p ∈ own, p ∈ led := fun p hp => by rw [hled]; exact List.mem_append_right _ hp
        have mS' := sub _ mS
        have mR' := sub _ mR
        have m1' := sub _ m1
        have rS' := RowsAt.sub rS sub
        have rR' := RowsAt.sub rR sub
        simp only [List.cons_append, List.nil_append] at N
        (repeat' ((fail_if_success (with_reducible show wpAny _ _ (pyIter (Value.ref _)) _ _ _)); (first | (k_unfold; (try dsimp only)) | (k_end; wrow_close) | walk1 | (dsimp only; walk1) | (leave1; walk_say "STEP leave1"; try dsimp only) | fail "no step")))
        all_goals (try exact absurd (show who = b by with_reducible assumption) (show ¬ who = b by with_reducible assumption))
        all_goals
          (rename Fr _ _ _ _ => F5)
          (rename News _ _ _ _ => N5)
          have st : loopRes S R b k (prevR S R b k) (i + 1) = stepR b k (prevR S R b k) R none i := by
            show stepR b k (prevR S R b k) R (loopRes S R b k (prevR S R b k) i) i = _
            rw [hres]
          first
          | (rw [stepR_a e2 (by with_reducible assumption) (by with_reducible assumption)] at st
             obtain ⟨ex', hF', N6, off6⟩ := end_empty hled N5 (by k_dflt assumption) (fun p hp => by repeat (first | exact hp | refine List.mem_cons_of_mem _ ?_)) (off_base hoff)
             refine loop_endX F5 ⟨(_, ex'), ⟨by (show FoundAt _ ex' (loopRes S R b k (prevR S R b k) (i + 1)); rw [st]; exact hF'.1), hF'.2⟩, N6, off6, hasCons rfl hasNil, ?_⟩
             intro z h1 h2 h3
             have s0 := h2 _ (.head _)
             have s1 := (cont_cons h3).1
             have s2 := (cont_cons (cont_cons h3).2).1
             have s3 := (cont_cons (cont_cons (cont_cons h3).2).2).1
             have s4 := (cont_cons (cont_cons (cont_cons (cont_cons h3).2).2).2).1
             have s5 := (cont_cons (cont_cons (cont_cons (cont_cons (cont_cons h3).2).2).2).2).1
             repeat (first | exact kstO h1 s0 h3 | refine (if_neg s0).trans ?_ | refine (if_neg s1).trans ?_ | refine (if_neg s2).trans ?_ | refine (if_neg s3).trans ?_ | refine (if_neg s4).trans ?_ | refine (if_neg s5).trans ?_))
          | (rw [stepR_c e2 (by with_reducible assumption) (by with_reducible assumption) (by with_reducible assumption)] at st
             obtain ⟨ex', hF', N6, off6⟩ := end_fill2 hled N5 (by k_dflt assumption) (by k_dflt assumption) (fun p hp => by repeat (first | exact hp | refine List.mem_cons_of_mem _ ?_)) (off_base hoff) f1 sh1 (Int.zero_add _)
             refine loop_endX F5 ⟨(_, ex'), ⟨by (show FoundAt _ ex' (loopRes S R b k (prevR S R b k) (i + 1)); rw [st]; exact hF'.1), hF'.2⟩, N6, off6, hasCons rfl hasNil, ?_⟩
             intro z h1 h2 h3
             have s0 := h2 _ (.head _)
             have s1 := (cont_cons h3).1
             have s2 := (cont_cons (cont_cons h3).2).1
             have s3 := (cont_cons (cont_cons (cont_cons h3).2).2).1
             have s4 := (cont_cons (cont_cons (cont_cons (cont_cons h3).2).2).2).1
             have s5 := (cont_cons (cont_cons (cont_cons (cont_cons (cont_cons h3).2).2).2).2).1
             repeat (first | exact kstO h1 s0 h3 | refine (if_neg s0).trans ?_ | refine (if_neg s1).trans ?_ | refine (if_neg s2).trans ?_ | refine (if_neg s3).trans ?_ | refine (if_neg s4).trans ?_ | refine (if_neg s5).trans ?_))
          | (rw [stepR_h e2 (by with_reducible assumption) (by with_reducible assumption) (by with_reducible assumption) (by with_reducible assumption) ((congrFun (prevR_eq (S := S) (R := R) (base := b) (show dn + 1 = k by omega)) i).trans (by with_reducible assumption)) (by with_reducible assumption)] at st
             obtain ⟨ex', hF', N6, off6⟩ := end_fill2 hled N5 (by k_dflt assumption) (by k_dflt assumption) (fun p hp => by repeat (first | exact hp | refine List.mem_cons_of_mem _ ?_)) (off_base hoff) (Flat.str _ _) (by decide +kernel) (Int.zero_add _)
             refine loop_endX F5 ⟨(_, ex'), ⟨by (show FoundAt _ ex' (loopRes S R b k (prevR S R b k) (i + 1)); rw [st]; exact hF'.1), hF'.2⟩, N6, off6, hasCons rfl hasNil, ?_⟩
             intro z h1 h2 h3
             have s0 := h2 _ (.head _)
             have s1 := (cont_cons h3).1
             have s2 := (cont_cons (cont_cons h3).2).1
             have s3 := (cont_cons (cont_cons (cont_cons h3).2).2).1
             have s4 := (cont_cons (cont_cons (cont_cons (cont_cons h3).2).2).2).1
             have s5 := (cont_cons (cont_cons (cont_cons (cont_cons (cont_cons h3).2).2).2).2).1
             repeat (first | exact kstO h1 s0 h3 | refine (if_neg s0).trans ?_ | refine (if_neg s1).trans ?_ | refine (if_neg s2).trans ?_ | refine (if_neg s3).trans ?_ | refine (if_neg s4).trans ?_ | refine (if_neg s5).trans ?_))
          | (rw [stepR_j e2 (by with_reducible assumption) (by with_reducible assumption) (by with_reducible assumption) (by with_reducible assumption) ((congrFun (prevR_eq (S := S) (R := R) (base := b) (show dn + 1 = k by omega)) i).trans (by with_reducible assumption)) (by with_reducible assumption)] at st
             obtain ⟨ex', hF', N6, off6⟩ := end_fill2 hled N5 (by k_dflt assumption) (by k_dflt assumption) (fun p hp => by repeat (first | exact hp | refine List.mem_cons_of_mem _ ?_)) (off_base hoff) (by with_reducible assumption) (by with_reducible assumption) (Int.zero_add _)
             refine loop_endX F5 ⟨(_, ex'), ⟨by (show FoundAt _ ex' (loopRes S R b k (prevR S R b k) (i + 1)); rw [st]; exact hF'.1), hF'.2⟩, N6, off6, hasCons rfl hasNil, ?_⟩
             intro z h1 h2 h3
             have s0 := h2 _ (.head _)
             have s1 := (cont_cons h3).1
             have s2 := (cont_cons (cont_cons h3).2).1
             have s3 := (cont_cons (cont_cons (cont_cons h3).2).2).1
             have s4 := (cont_cons (cont_cons (cont_cons (cont_cons h3).2).2).2).1
             have s5 := (cont_cons (cont_cons (cont_cons (cont_cons (cont_cons h3).2).2).2).2).1
             repeat (first | exact kstO h1 s0 h3 | refine (if_neg s0).trans ?_ | refine (if_neg s1).trans ?_ | refine (if_neg s2).trans ?_ | refine (if_neg s3).trans ?_ | refine (if_neg s4).trans ?_ | refine (if_neg s5).trans ?_))
          | (rw [stepR_b e2 (by with_reducible assumption) (by with_reducible assumption)] at st
             refine loop_endX F5 ⟨(lG, [(lG, listOf #[] nF)]), ⟨by (show FoundAt _ _ (loopRes S R b k (prevR S R b k) (i + 1)); rw [st]; exact ⟨_, rfl⟩), offx⟩, sub_news hled N5 (ex := [(lG, listOf #[] nF)]) (fun p hp => ?_) (fun p hp => by repeat (first | exact hp | refine List.mem_cons_of_mem _ ?_)), hoff, hasCons rfl hasNil, ?_⟩
             · repeat (first | exact List.mem_append_left _ hp | exact (List.mem_append_left led hp : p ∈ [(lG, listOf #[] nF)] ++ led) | refine List.mem_cons_of_mem _ ?_)
             · intro z h1 h2 h3
               have s0 := h2 _ (.head _)
               have s1 := (cont_cons h3).1
               have s2 := (cont_cons (cont_cons h3).2).1
               have s3 := (cont_cons (cont_cons (cont_cons h3).2).2).1
               have s4 := (cont_cons (cont_cons (cont_cons (cont_cons h3).2).2).2).1
               have s5 := (cont_cons (cont_cons (cont_cons (cont_cons (cont_cons h3).2).2).2).2).1
               repeat (first | exact kstO h1 s0 h3 | refine (if_neg s0).trans ?_ | refine (if_neg s1).trans ?_ | refine (if_neg s2).trans ?_ | refine (if_neg s3).trans ?_ | refine (if_neg s4).trans ?_ | refine (if_neg s5).trans ?_))
          | (rw [stepR_e e2 (by with_reducible assumption) (by with_reducible assumption)] at st
             refine loop_endX F5 ⟨(lG, [(lG, listOf #[] nF)]), ⟨by (show FoundAt _ _ (loopRes S R b k (prevR S R b k) (i + 1)); rw [st]; exact ⟨_, rfl⟩), offx⟩, sub_news hled N5 (ex := [(lG, listOf #[] nF)]) (fun p hp => ?_) (fun p hp => by repeat (first | exact hp | refine List.mem_cons_of_mem _ ?_)), hoff, hasCons rfl hasNil, ?_⟩
             · repeat (first | exact List.mem_append_left _ hp | exact (List.mem_append_left led hp : p ∈ [(lG, listOf #[] nF)] ++ led) | refine List.mem_cons_of_mem _ ?_)
             · intro z h1 h2 h3
               have s0 := h2 _ (.head _)
               have s1 := (cont_cons h3).1
               have s2 := (cont_cons (cont_cons h3).2).1
               have s3 := (cont_cons (cont_cons (cont_cons h3).2).2).1
               have s4 := (cont_cons (cont_cons (cont_cons (cont_cons h3).2).2).2).1
               have s5 := (cont_cons (cont_cons (cont_cons (cont_cons (cont_cons h3).2).2).2).2).1
               repeat (first | exact kstO h1 s0 h3 | refine (if_neg s0).trans ?_ | refine (if_neg s1).trans ?_ | refine (if_neg s2).trans ?_ | refine (if_neg s3).trans ?_ | refine (if_neg s4).trans ?_ | refine (if_neg s5).trans ?_))
          | (rw [stepR_f e2 (by with_reducible assumption) (by with_reducible assumption) (by with_reducible assumption)] at st
             refine loop_endX F5 ⟨(lG, [(lG, listOf #[] nF)]), ⟨by (show FoundAt _ _ (loopRes S R b k (prevR S R b k) (i + 1)); rw [st]; exact ⟨_, rfl⟩), offx⟩, sub_news hled N5 (ex := [(lG, listOf #[] nF)]) (fun p hp => ?_) (fun p hp => by repeat (first | exact hp | refine List.mem_cons_of_mem _ ?_)), hoff, hasCons rfl hasNil, ?_⟩
             · repeat (first | exact List.mem_append_left _ hp | exact (List.mem_append_left led hp : p ∈ [(lG, listOf #[] nF)] ++ led) | refine List.mem_cons_of_mem _ ?_)
             · intro z h1 h2 h3
               have s0 := h2 _ (.head _)
               have s1 := (cont_cons h3).1
               have s2 := (cont_cons (cont_cons h3).2).1
               have s3 := (cont_cons (cont_cons (cont_cons h3).2).2).1
               have s4 := (cont_cons (cont_cons (cont_cons (cont_cons h3).2).2).2).1
               have s5 := (cont_cons (cont_cons (cont_cons (cont_cons (cont_cons h3).2).2).2).2).1
               repeat (first | exact kstO h1 s0 h3 | refine (if_neg s0).trans ?_ | refine (if_neg s1).trans ?_ | refine (if_neg s2).trans ?_ | refine (if_neg s3).trans ?_ | refine (if_neg s4).trans ?_ | refine (if_neg s5).trans ?_))
          | (rw [stepR_i e2 (by with_reducible assumption) (by with_reducible assumption) (by with_reducible assumption) (by with_reducible assumption) ((congrFun (prevR_eq (S := S) (R := R) (base := b) (show dn + 1 = k by omega)) i).trans (by with_reducible assumption)) (by with_reducible assumption)] at st
             refine loop_endX F5 ⟨(lG, [(lG, listOf #[] nF)]), ⟨by (show FoundAt _ _ (loopRes S R b k (prevR S R b k) (i + 1)); rw [st]; exact ⟨_, rfl⟩), offx⟩, sub_news hled N5 (ex := [(lG, listOf #[] nF)]) (fun p hp => ?_) (fun p hp => by repeat (first | exact hp | refine List.mem_cons_of_mem _ ?_)), hoff, hasCons rfl hasNil, ?_⟩
             · repeat (first | exact List.mem_append_left _ hp | exact (List.mem_append_left led hp : p ∈ [(lG, listOf #[] nF)] ++ led) | refine List.mem_cons_of_mem _ ?_)
             · intro z h1 h2 h3
               have s0 := h2 _ (.head _)
               have s1 := (cont_cons h3).1
               have s2 := (cont_cons (cont_cons h3).2).1
               have s3 := (cont_cons (cont_cons (cont_cons h3).2).2).1
               have s4 := (cont_cons (cont_cons (cont_cons (cont_cons h3).2).2).2).1
               have s5 := (cont_cons (cont_cons (cont_cons (cont_cons (cont_cons h3).2).2).2).2).1
               repeat (first | exact kstO h1 s0 h3 | refine (if_neg s0).trans ?_ | refine (if_neg s1).trans ?_ | refine (if_neg s2).trans ?_ | refine (if_neg s3).trans ?_ | refine (if_neg s4).trans ?_ | refine (if_neg s5).trans ?_))
          | (rw [stepR_k e2 (by with_reducible assumption) (by with_reducible assumption) (by with_reducible assumption) (by with_reducible assumption) ((congrFun (prevR_eq (S := S) (R := R) (base := b) (show dn + 1 = k by omega)) i).trans (by with_reducible assumption)) (by with_reducible assumption)] at st
             refine loop_endX F5 ⟨(lG, [(lG, listOf #[] nF)]), ⟨by (show FoundAt _ _ (loopRes S R b k (prevR S R b k) (i + 1)); rw [st]; exact ⟨_, rfl⟩), offx⟩, sub_news hled N5 (ex := [(lG, listOf #[] nF)]) (fun p hp => ?_) (fun p hp => by repeat (first | exact hp | refine List.mem_cons_of_mem _ ?_)), hoff, hasCons rfl hasNil, ?_⟩
             · repeat (first | exact List.mem_append_left _ hp | exact (List.mem_append_left led hp : p ∈ [(lG, listOf #[] nF)] ++ led) | refine List.mem_cons_of_mem _ ?_)
             · intro z h1 h2 h3
               have s0 := h2 _ (.head _)
               have s1 := (cont_cons h3).1
               have s2 := (cont_cons (cont_cons h3).2).1
               have s3 := (cont_cons (cont_cons (cont_cons h3).2).2).1
               have s4 := (cont_cons (cont_cons (cont_cons (cont_cons h3).2).2).2).1
               have s5 := (cont_cons (cont_cons (cont_cons (cont_cons (cont_cons h3).2).2).2).2).1
               repeat (first | exact kstO h1 s0 h3 | refine (if_neg s0).trans ?_ | refine (if_neg s1).trans ?_ | refine (if_neg s2).trans ?_ | refine (if_neg s3).trans ?_ | refine (if_neg s4).trans ?_ | refine (if_neg s5).trans ?_))
      · rw [hres] at hP
        obtain ⟨p, v9, n9, t9, t9', k9, rfl, f9, sh9⟩ := hP
        obtain ⟨led, hled⟩ : ∃ q, q = news ++ own := ⟨_, rfl⟩
        rw [List.append_assoc, ← hled] at N
        have sub : ∀ p ∈ news, p ∈ led := fun p hp => by rw [hled]; exact List.mem_append_left _ hp
        have subO : ∀ p ∈ own, p ∈ led := fun p hp => by rw [hled]; exact List.mem_append_right _ hp
        have mS' := sub _ mS
        have mR' := sub _ mR
        have m1' := sub _ m1
        simp only [List.cons_append, List.nil_append] at N
        clear ih
        (repeat' ((fail_if_success (with_reducible show wpAny _ _ (pyIter (Value.ref _)) _ _ _)); (first | (k_unfold; (try dsimp only)) | (k_end; wrow_close) | walk1 | (dsimp only; walk1) | (leave1; walk_say "STEP leave1"; try dsimp only) | fail "no step")))
        all_goals (try exact absurd (show who = b by with_reducible assumption) (show ¬ who = b by with_reducible assumption))
        all_goals
          (rename Fr _ _ _ _ => F5)
          (rename News _ _ _ _ => N5)
          have st : loopRes S R b k (prevR S R b k) (i + 1) = stepR b k (prevR S R b k) R (some ((x, y), dw)) i := by
            show stepR b k (prevR S R b k) R (loopRes S R b k (prevR S R b k) i) i = _
            rw [hres]
          first
          | (rw [stepR_a e2 (by with_reducible assumption) (by with_reducible assumption)] at st
             obtain ⟨ex', hF', N6, off6⟩ := end_empty hled N5 (by k_dflt assumption) (fun p hp => by repeat (first | exact hp | refine List.mem_cons_of_mem _ ?_)) (off_base hoff)
             refine loop_endX F5 ⟨(_, ex'), ⟨by (show FoundAt _ ex' (loopRes S R b k (prevR S R b k) (i + 1)); rw [st]; exact hF'.1), hF'.2⟩, N6, off6, hasCons rfl hasNil, ?_⟩
             intro z h1 h2 h3
             have s0 := h2 _ (.head _)
             have s1 := (cont_cons h3).1
             have s2 := (cont_cons (cont_cons h3).2).1
             have s3 := (cont_cons (cont_cons (cont_cons h3).2).2).1
             have s4 := (cont_cons (cont_cons (cont_cons (cont_cons h3).2).2).2).1
             have s5 := (cont_cons (cont_cons (cont_cons (cont_cons (cont_cons h3).2).2).2).2).1
             repeat (first | exact kstO h1 s0 h3 | refine (if_neg s0).trans ?_ | refine (if_neg s1).trans ?_ | refine (if_neg s2).trans ?_ | refine (if_neg s3).trans ?_ | refine (if_neg s4).trans ?_ | refine (if_neg s5).trans ?_))
          | (rw [stepR_d e2 (by with_reducible assumption) (by with_reducible assumption) (by with_reducible assumption)] at st
             obtain ⟨ex', hF', N6, off6⟩ := end_fill hled N5 (.tail _ (.head _)) (by k_dflt assumption) (fun q hq => hoff q hq p (.tail _ (.head _))) (fun b hb => offx _ (.tail _ (.head _)) b hb) (fun p hp => by repeat (first | exact hp | refine List.mem_cons_of_mem _ ?_)) (off_base hoff) f1 sh1 rfl
             refine loop_endX F5 ⟨(_, ex'), ⟨by (show FoundAt _ ex' (loopRes S R b k (prevR S R b k) (i + 1)); rw [st]; exact hF'.1), hF'.2⟩, N6, off6, hasCons rfl hasNil, ?_⟩
             intro z h1 h2 h3
             have s0 := h2 _ (.head _)
             have s1 := (cont_cons h3).1
             have s2 := (cont_cons (cont_cons h3).2).1
             have s3 := (cont_cons (cont_cons (cont_cons h3).2).2).1
             have s4 := (cont_cons (cont_cons (cont_cons (cont_cons h3).2).2).2).1
             have s5 := (cont_cons (cont_cons (cont_cons (cont_cons (cont_cons h3).2).2).2).2).1
             repeat (first | exact kstO h1 s0 h3 | refine (if_neg s0).trans ?_ | refine (if_neg s1).trans ?_ | refine (if_neg s2).trans ?_ | refine (if_neg s3).trans ?_ | refine (if_neg s4).trans ?_ | refine (if_neg s5).trans ?_))
          | (rw [stepR_b e2 (by with_reducible assumption) (by with_reducible assumption)] at st
             refine loop_endX F5 ⟨(lG, [(lG, listOf #[.ref p, v9] n9), (p, { cls := .type "tuple", data := .seq #[.int x t9, .int y t9'] k9 })]), ⟨by (show FoundAt _ _ (loopRes S R b k (prevR S R b k) (i + 1)); rw [st]; exact ⟨_, _, _, _, _, _, rfl, f9, sh9⟩), offx⟩, sub_news hled N5 (ex := [(lG, listOf #[.ref p, v9] n9), (p, { cls := .type "tuple", data := .seq #[.int x t9, .int y t9'] k9 })]) (fun p hp => ?_) (fun p hp => by repeat (first | exact hp | refine List.mem_cons_of_mem _ ?_)), hoff, hasCons rfl hasNil, ?_⟩
             · repeat (first | exact List.mem_append_left _ hp | exact (List.mem_append_left led hp : p ∈ [(lG, listOf #[.ref p, v9] n9), (p, { cls := .type "tuple", data := .seq #[.int x t9, .int y t9'] k9 })] ++ led) | refine List.mem_cons_of_mem _ ?_)
             · intro z h1 h2 h3
               have s0 := h2 _ (.head _)
               have s1 := (cont_cons h3).1
               have s2 := (cont_cons (cont_cons h3).2).1
               have s3 := (cont_cons (cont_cons (cont_cons h3).2).2).1
               have s4 := (cont_cons (cont_cons (cont_cons (cont_cons h3).2).2).2).1
               have s5 := (cont_cons (cont_cons (cont_cons (cont_cons (cont_cons h3).2).2).2).2).1
               repeat (first | exact kstO h1 s0 h3 | refine (if_neg s0).trans ?_ | refine (if_neg s1).trans ?_ | refine (if_neg s2).trans ?_ | refine (if_neg s3).trans ?_ | refine (if_neg s4).trans ?_ | refine (if_neg s5).trans ?_))
          | (rw [stepR_e e2 (by with_reducible assumption) (by with_reducible assumption)] at st
             refine loop_endX F5 ⟨(lG, [(lG, listOf #[.ref p, v9] n9), (p, { cls := .type "tuple", data := .seq #[.int x t9, .int y t9'] k9 })]), ⟨by (show FoundAt _ _ (loopRes S R b k (prevR S R b k) (i + 1)); rw [st]; exact ⟨_, _, _, _, _, _, rfl, f9, sh9⟩), offx⟩, sub_news hled N5 (ex := [(lG, listOf #[.ref p, v9] n9), (p, { cls := .type "tuple", data := .seq #[.int x t9, .int y t9'] k9 })]) (fun p hp => ?_) (fun p hp => by repeat (first | exact hp | refine List.mem_cons_of_mem _ ?_)), hoff, hasCons rfl hasNil, ?_⟩
             · repeat (first | exact List.mem_append_left _ hp | exact (List.mem_append_left led hp : p ∈ [(lG, listOf #[.ref p, v9] n9), (p, { cls := .type "tuple", data := .seq #[.int x t9, .int y t9'] k9 })] ++ led) | refine List.mem_cons_of_mem _ ?_)
             · intro z h1 h2 h3
               have s0 := h2 _ (.head _)
               have s1 := (cont_cons h3).1
               have s2 := (cont_cons (cont_cons h3).2).1
               have s3 := (cont_cons (cont_cons (cont_cons h3).2).2).1
               have s4 := (cont_cons (cont_cons (cont_cons (cont_cons h3).2).2).2).1
               have s5 := (cont_cons (cont_cons (cont_cons (cont_cons (cont_cons h3).2).2).2).2).1
               repeat (first | exact kstO h1 s0 h3 | refine (if_neg s0).trans ?_ | refine (if_neg s1).trans ?_ | refine (if_neg s2).trans ?_ | refine (if_neg s3).trans ?_ | refine (if_neg s4).trans ?_ | refine (if_neg s5).trans ?_))
          | (rw [stepR_g e2 (by with_reducible assumption) (by with_reducible assumption)] at st
             refine loop_endX F5 ⟨(lG, [(lG, listOf #[.ref p, v9] n9), (p, { cls := .type "tuple", data := .seq #[.int x t9, .int y t9'] k9 })]), ⟨by (show FoundAt _ _ (loopRes S R b k (prevR S R b k) (i + 1)); rw [st]; exact ⟨_, _, _, _, _, _, rfl, f9, sh9⟩), offx⟩, sub_news hled N5 (ex := [(lG, listOf #[.ref p, v9] n9), (p, { cls := .type "tuple", data := .seq #[.int x t9, .int y t9'] k9 })]) (fun p hp => ?_) (fun p hp => by repeat (first | exact hp | refine List.mem_cons_of_mem _ ?_)), hoff, hasCons rfl hasNil, ?_⟩
             · repeat (first | exact List.mem_append_left _ hp | exact (List.mem_append_left led hp : p ∈ [(lG, listOf #[.ref p, v9] n9), (p, { cls := .type "tuple", data := .seq #[.int x t9, .int y t9'] k9 })] ++ led) | refine List.mem_cons_of_mem _ ?_)
             · intro z h1 h2 h3
               have s0 := h2 _ (.head _)
               have s1 := (cont_cons h3).1
               have s2 := (cont_cons (cont_cons h3).2).1
               have s3 := (cont_cons (cont_cons (cont_cons h3).2).2).1
               have s4 := (cont_cons (cont_cons (cont_cons (cont_cons h3).2).2).2).1
               have s5 := (cont_cons (cont_cons (cont_cons (cont_cons (cont_cons h3).2).2).2).2).1
               repeat (first | exact kstO h1 s0 h3 | refine (if_neg s0).trans ?_ | refine (if_neg s1).trans ?_ | refine (if_neg s2).trans ?_ | refine (if_neg s3).trans ?_ | refine (if_neg s4).trans ?_ | refine (if_neg s5).trans ?_))
    · rintro ⟨lG, ex2⟩ u2 h tk ⟨hP, offx⟩ F N
      (repeat' ((fail_if_success (with_reducible show wpAny _ _ (pyIter (Value.ref _)) _ _ _)); (first | (k_unfold; (try dsimp only)) | (k_end; wrow_close) | walk1 | (dsimp only; walk1) | (leave1; walk_say "STEP leave1"; try dsimp only) | fail "no step")))
      (rename Fr h₀ L _ m => F5)
      (rename News h₀ L _ _ => N5)
      exact hret _ _ _ _ F5 N5 (by rw [story_loop]; exact hP) offx
end
theorem story_ok : ∀ k : Nat, StoryOK k
  | 0 => story_step fun d h => absurd h (Nat.succ_ne_zero d)
  | k + 1 => story_step fun d h => by obtain rfl := Nat.succ.inj h; exact story_ok d
def isB : PyData → Bool
  | .bool _ => true
  | _ => false
abbrev TRow := (Int × Int) × (Int × Int) × PyData
abbrev tup4 (p : Addr) (nm : Str) (fl : Bool) (v : Value) (tn : Tok) (n : Nat) : Obj := { cls := .type "tuple", data := .seq #[.ref p, .str nm tn, .bool fl, v] n }
def ToldRows (tl : List (Addr × Obj)) (ts : List Value) (T : List TRow) : Prop :=
  ts.length = T.length ∧ ∀ (i : Nat) (v : Value), ts[i]? = some v → ∃ a p x y b l dv vv tn t t' n k, v = .ref a ∧ (a, tup4 p (nameS b l) (isB dv) vv tn n) ∈ tl ∧ (p, ({ cls := .type "tuple", data := .seq #[.int x t, .int y t'] k } : Obj)) ∈ tl ∧
    T[i]? = some ((x, y), (b, l), dv) ∧ Flat vv dv ∧ SeqAt.shaped dv = true
theorem ToldRows.sub {news news' : List (Addr × Obj)} {rs : List Value} {T : List TRow} (h : ToldRows news rs T) (hs : ∀ p ∈ news, p ∈ news') : ToldRows news' rs T :=
  ⟨h.1, fun i v hv => let ⟨a, p, x, y, b, l, dv, vv, tn, t, t', n, k, e, m1, m2, r⟩ := h.2 i v hv; ⟨a, p, x, y, b, l, dv, vv, tn, t, t', n, k, e, hs _ m1, hs _ m2, r⟩⟩
theorem ToldRows.snoc {tl : List (Addr × Obj)} {ts : List Value} {T : List TRow} {a p : Addr} {x y b l : Int} {vv : Value} {dv : PyData} {tn t t' : Tok} {n k : Nat} (h : ToldRows tl ts T) (f : Flat vv dv) (sh : SeqAt.shaped dv = true) :
    ToldRows ((a, tup4 p (nameS b l) (isB dv) vv tn n) :: (p, ({ cls := .type "tuple", data := .seq #[.int x t, .int y t'] k } : Obj)) :: tl) (ts ++ [.ref a]) (T ++ [((x, y), (b, l), dv)]) := by
  refine ⟨by rw [List.length_append, List.length_append, h.1]; rfl, fun i u hu => ?_⟩
  by_cases hi : i < ts.length
  · rw [List.getElem?_append_left hi] at hu
    obtain ⟨a', p', x', y', b', l', dv', vv', tn', u', u2, n', k', e, m1, m2, r⟩ := h.2 i u hu
    exact ⟨a', p', x', y', b', l', dv', vv', tn', u', u2, n', k', e, .tail _ (.tail _ m1), .tail _ (.tail _ m2), (List.getElem?_append_left (by rw [← h.1]; exact hi)).trans r.1, r.2⟩
  · have hi2 : i = ts.length := by
      have := (List.getElem?_eq_some_iff.mp hu).1
      rw [List.length_append, List.length_singleton] at this
      omega
    subst hi2
    rw [List.getElem?_append_right (Nat.le_refl _), Nat.sub_self] at hu
    obtain rfl := Option.some.inj hu
    refine ⟨a, p, x, y, b, l, dv, vv, tn, t, t', n, k, rfl, .head _, .tail _ (.head _), ?_, f, sh⟩
    rw [h.1, List.getElem?_append_right (Nat.le_refl _), Nat.sub_self]
    rfl
def toldOne (S R : List Row3) (m : Nat) : List TRow := match story S R ((m / 5 : Nat) : Int) (m % 5) R.length with
  | none => []
  | some (born, dv) => [(born, (((m / 5 : Nat) : Int), ((m % 5 : Nat) : Int)), dv)]
def toldT (S R : List Row3) : Nat → List TRow
  | 0 => []
  | m + 1 => toldT S R m ++ toldOne S R m
theorem toldOne_at {S R : List Row3} {i j : Nat} (hj : j < 5) : toldOne S R (5 * i + j) = match story S R (i : Int) j R.length with
  | none => []
  | some (born, dv) => [(born, ((i : Int), (j : Int)), dv)] := by
  unfold toldOne
  rw [show (5 * i + j) / 5 = i by omega, show (5 * i + j) % 5 = j by omega]
theorem toldT_none {S R : List Row3} {i j : Nat} (hj : j < 5) (h : story S R (i : Int) j R.length = none) : toldT S R (5 * i + (j + 1)) = toldT S R (5 * i + j) := by
  show toldT S R (5 * i + j) ++ toldOne S R (5 * i + j) = _
  rw [toldOne_at hj, h]; exact List.append_nil _
theorem toldT_some {S R : List Row3} {i j : Nat} {x y : Int} {dv : PyData} (hj : j < 5) (h : story S R (i : Int) j R.length = some ((x, y), dv)) : toldT S R (5 * i + (j + 1)) = toldT S R (5 * i + j) ++ [((x, y), ((i : Int), (j : Int)), dv)] := by
  show toldT S R (5 * i + j) ++ toldOne S R (5 * i + j) = _
  rw [toldOne_at hj, h]
theorem toldT_len (S R : List Row3) : ∀ m, (toldT S R m).length ≤ m
  | 0 => Nat.le_refl _
  | m + 1 => by
    have := toldT_len S R m
    have h1 : (toldOne S R m).length ≤ 1 := by unfold toldOne; split <;> simp
    show (toldT S R m ++ toldOne S R m).length ≤ m + 1
    rw [List.length_append]; omega
def ToldSt (lT : Addr) (base : List (Addr × Obj)) (T : List TRow) (c : List Value × Nat × List (Addr × Obj)) : Prop :=
  ToldRows c.2.2 c.1 T ∧ OwnOff c.2.2 (lT :: base.map (·.1))
theorem told_row {g h : Heap} {L lT D p : Addr} {o o2 : Obj} {c : List Value} {n n' : Nat} {tl base own led rest : List (Addr × Obj)} {T : List TRow} {x y b l : Int} {v : Value} {t t' tn : Tok} {k k' : Nat} {dv : PyData}
    (hled : led = (tl ++ base) ++ own) (N : News g L h ((D, tup4 p (nameS b l) (isB dv) v tn k) :: rest)) (mp : (p, ({ cls := .type "tuple", data := .seq #[.int x t, .int y t'] k' } : Obj)) ∈ rest) (mT : (lT, listOf (c ++ [Value.ref D]).toArray n') ∈ rest) (hs : ∀ q ∈ led, q ∈ rest)
    (hlt : AllLt D rest) (hp : ∀ q ∈ ((lT, o2) :: led).map (·.1), @Ne Nat p q)
    (hoff : OwnOff own (((lT, o) :: (tl ++ base)).map (·.1))) (hP : ToldSt lT base T (c, n, tl)) (f : Flat v dv) (sh : SeqAt.shaped dv = true) :
    ∃ c' : List Value × Nat × List (Addr × Obj), ToldSt lT base (T ++ [((x, y), (b, l), dv)]) c' ∧ News g L h (((lT, listOf c'.1.toArray c'.2.1) :: (c'.2.2 ++ base)) ++ own) ∧ OwnOff own (((lT, listOf c'.1.toArray c'.2.1) :: (c'.2.2 ++ base)).map (·.1)) := by
  have hne : ∀ q ∈ rest, q.1 ≠ D := fun q hq => Nat.ne_of_lt (allLt_lt hlt q hq)
  have hl : ∀ q, (q ∈ tl ∨ q ∈ base ∨ q ∈ own) → q ∈ led := fun q hq => by
    rw [hled]
    rcases hq with h | h | h
    · exact List.mem_append_left _ (List.mem_append_left _ h)
    · exact List.mem_append_left _ (List.mem_append_right _ h)
    · exact List.mem_append_right _ h
  have hpl : ∀ q ∈ led, @Ne Nat p q.1 := fun q hq => hp _ (.tail _ (List.mem_map_of_mem (f := Prod.fst) hq))
  have hpT : @Ne Nat p lT := hp _ (.head _)
  refine ⟨(c ++ [.ref D], n', (D, tup4 p (nameS b l) (isB dv) v tn k) :: (p, { cls := .type "tuple", data := .seq #[.int x t, .int y t'] k' }) :: tl), ⟨hP.1.snoc f sh, ?_⟩, ?_, ?_⟩
  · intro q hq r hr
    rcases List.mem_cons.mp hq with e | hq
    · rw [e]
      rcases List.mem_cons.mp hr with rfl | hr
      · exact (hne _ mT).symm
      · obtain ⟨z, hz, rfl⟩ := List.mem_map.mp hr
        exact (hne z (hs z (hl z (.inr (.inl hz))))).symm
    · rcases List.mem_cons.mp hq with e | hq
      · rw [e]
        rcases List.mem_cons.mp hr with rfl | hr
        · exact hpT
        · obtain ⟨z, hz, rfl⟩ := List.mem_map.mp hr
          exact hpl z (hl z (.inr (.inl hz)))
      · exact hP.2 q hq r hr
  · intro q hq
    simp only [List.cons_append, List.mem_cons, List.mem_append] at hq
    rcases hq with e | e | e | (hq | hq) | hq
    · rw [e]; exact N _ (.tail _ mT)
    · rw [e]; exact N _ (.head _)
    · rw [e]; exact N _ (.tail _ mp)
    · exact N q (.tail _ (hs q (hl q (.inl hq))))
    · exact N q (.tail _ (hs q (hl q (.inr (.inl hq)))))
    · exact N q (.tail _ (hs q (hl q (.inr (.inr hq)))))
  · intro q hq r hr
    simp only [List.cons_append, List.map_cons, List.mem_cons] at hr
    rcases hr with rfl | rfl | rfl | hr
    · exact hoff q hq _ (.head _)
    · exact hne q (hs q (hl q (.inr (.inr hq))))
    · exact (hpl q (hl q (.inr (.inr hq)))).symm
    · exact hoff q hq r (.tail _ hr)
theorem ToldSt.widen {lT : Addr} {o : Obj} {base own tl : List (Addr × Obj)} {T : List TRow} {c : List Value} {n : Nat} (h : ToldSt lT base T (c, n, tl)) (hoff : OwnOff own (((lT, o) :: (tl ++ base)).map (·.1))) : ToldSt lT (base ++ own) T (c, n, tl) := by
  refine ⟨h.1, fun p hp b hb => ?_⟩
  rcases List.mem_cons.mp hb with rfl | hb
  · exact h.2 p hp _ (.head _)
  · rw [List.map_append] at hb
    rcases List.mem_append.mp hb with hb | hb
    · exact h.2 p hp b (.tail _ hb)
    · obtain ⟨q, hq, rfl⟩ := List.mem_map.mp hb
      exact (hoff q hq p.1 (.tail _ (List.mem_map_of_mem (f := Prod.fst) (List.mem_append_left _ hp)))).symm
theorem ToldSt.narrow {lT : Addr} {base own : List (Addr × Obj)} {T : List TRow} {q : List Value × Nat × List (Addr × Obj)} (h : ToldSt lT (base ++ own) T q) : ToldSt lT base T q :=
  ⟨h.1, fun p hp b hb => h.2 p hp b ((List.mem_cons.mp hb).elim (fun e => e ▸ .head _) fun hb => .tail _ (by rw [List.map_append]; exact List.mem_append_left _ hb))⟩
theorem told_off {lT : Addr} {o o' : Obj} {base own tl : List (Addr × Obj)} {T : List TRow} {q : List Value × Nat × List (Addr × Obj)} (h : ToldSt lT (base ++ own) T q) (hoff : OwnOff own (((lT, o) :: (tl ++ base)).map (·.1))) :
    OwnOff own (((lT, o') :: (q.2.2 ++ base)).map (·.1)) := by
  intro p hp b hb
  simp only [List.map_cons, List.map_append, List.mem_cons, List.mem_append] at hb
  rcases hb with rfl | hb | hb
  · exact hoff p hp _ (.head _)
  · obtain ⟨r, hr, rfl⟩ := List.mem_map.mp hb
    exact (h.2 r hr p.1 (.tail _ (List.mem_map_of_mem (f := Prod.fst) (List.mem_append_right _ hp)))).symm
  · refine hoff p hp b (.tail _ ?_)
    obtain ⟨r, hr, rfl⟩ := List.mem_map.mp hb
    exact List.mem_map_of_mem (f := Prod.fst) (List.mem_append_right _ hr)
abbrev tup3s (nm : Str) (fl : Bool) (v : Value) (tn : Tok) (n : Nat) : Obj := { cls := .type "tuple", data := .seq #[.str nm tn, .bool fl, v] n }
/-- rows of (name, flag, value) -/
def SeenRows (nw : List (Addr × Obj)) (ys : List Value) (c : List (Str × PyData)) : Prop :=
  ys.length = c.length ∧ ∀ (i : Nat) (v : Value), ys[i]? = some v → ∃ a nm dv vv tn n, v = .ref a ∧ (a, tup3s nm (isB dv) vv tn n) ∈ nw ∧ c[i]? = some (nm, dv) ∧ Flat vv dv ∧ SeqAt.shaped dv = true
theorem SeenRows.sub {news news' : List (Addr × Obj)} {ys : List Value} {c : List (Str × PyData)} (h : SeenRows news ys c) (hs : ∀ p ∈ news, p ∈ news') : SeenRows news' ys c :=
  ⟨h.1, fun i v hv => let ⟨a, nm, dv, vv, tn, n, e, m, r⟩ := h.2 i v hv; ⟨a, nm, dv, vv, tn, n, e, hs _ m, r⟩⟩
theorem SeenRows.nil {nw : List (Addr × Obj)} : SeenRows nw [] [] := ⟨rfl, fun i v h => by simp at h⟩
theorem SeenRows.snoc {nw : List (Addr × Obj)} {ys : List Value} {c : List (Str × PyData)} {a : Addr} {nm : Str} {dv : PyData} {vv : Value} {tn : Tok} {n : Nat} (h : SeenRows nw ys c) (m : (a, tup3s nm (isB dv) vv tn n) ∈ nw) (f : Flat vv dv) (sh : SeqAt.shaped dv = true) :
    SeenRows nw (ys ++ [.ref a]) (c ++ [(nm, dv)]) := by
  refine ⟨by rw [List.length_append, List.length_append, h.1]; rfl, fun i u hu => ?_⟩
  by_cases hi : i < ys.length
  · rw [List.getElem?_append_left hi] at hu
    obtain ⟨a', nm', dv', vv', tn', n', e, m', r⟩ := h.2 i u hu
    exact ⟨a', nm', dv', vv', tn', n', e, m', (List.getElem?_append_left (by rw [← h.1]; exact hi)).trans r.1, r.2⟩
  · have hi2 : i = ys.length := by
      have := (List.getElem?_eq_some_iff.mp hu).1
      rw [List.length_append, List.length_singleton] at this
      omega
    subst hi2
    rw [List.getElem?_append_right (Nat.le_refl _), Nat.sub_self] at hu
    obtain rfl := Option.some.inj hu
    refine ⟨a, nm, dv, vv, tn, n, rfl, m, ?_, f, sh⟩
    rw [h.1, List.getElem?_append_right (Nat.le_refl _), Nat.sub_self]
    rfl
theorem getC_at : ∀ {c : Cfg} {i : Nat} {p : Str × PyData}, (c.map (·.1)).Nodup → c[i]? = some p → getC c p.1 = some p.2
  | q :: c, 0, p, _, h => by
    obtain rfl := Option.some.inj h
    unfold getC
    rw [List.find?_cons_of_pos (by simp)]
    rfl
  | q :: c, i + 1, p, nd, h => by
    have hq : q.1 ≠ p.1 := fun e => (List.nodup_cons.mp nd).1 (by show q.1 ∈ _; rw [e]; exact List.mem_map_of_mem (f := Prod.fst) (List.mem_of_getElem? h))
    have ih := getC_at (c := c) (i := i) (List.nodup_cons.mp nd).2 h
    unfold getC at ih ⊢
    rw [List.find?_cons_of_neg (by simpa using hq)]
    exact ih
def seenD (c : List (Str × PyData)) : PyData := .list (c.map fun p => .tuple [.str p.1, .bool (isB p.2), p.2])
theorem flat_depth {v : Value} {dv : PyData} (f : Flat v dv) : dv.depth = 0 := by
  have f0 := f {}
  cases f0 with
  | none => rfl
  | bool b => rfl
  | int i t => rfl
  | str x t => rfl
  | tuple ho _ _ _ => exact absurd (Heap.lt_size ho) (Nat.not_lt_zero _)
def LayOk (c : List (Str × PyData)) : Prop := ∀ p ∈ c, PyData.strOk p.1 = true ∧ p.2.canLay0 = true ∧ p.2.depth = 0
theorem SeenRows.flats {nw : List (Addr × Obj)} {ys : List Value} {c : List (Str × PyData)} (h : SeenRows nw ys c) (hn : ∀ p ∈ c, PyData.strOk p.1 = true) : LayOk c := by
  intro p hp
  obtain ⟨i, hi, e⟩ := List.getElem_of_mem hp
  obtain ⟨a, nm, dv, vv, tn, n, _, _, e2, f, sh⟩ := h.2 i _ (List.getElem?_eq_getElem (by rw [h.1]; exact hi))
  rw [List.getElem?_eq_getElem hi, e] at e2
  refine ⟨hn p hp, ?_⟩
  rw [Option.some.inj e2]
  exact ⟨SeqAt.canLay_of_shaped sh, flat_depth f⟩
theorem seen_lay : ∀ {c : List (Str × PyData)}, LayOk c → PyData.canLayAll0 (c.map fun p => PyData.tuple [.str p.1, .bool (isB p.2), p.2]) = true ∧ PyData.depthAll (c.map fun p => PyData.tuple [.str p.1, .bool (isB p.2), p.2]) ≤ 1
  | [], _ => ⟨rfl, Nat.zero_le _⟩
  | p :: c, h => by
    obtain ⟨i1, i2⟩ := seen_lay (c := c) fun q hq => h q (.tail _ hq)
    obtain ⟨h0, h1, h2⟩ := h p (.head _)
    constructor
    · simp [PyData.canLayAll0, PyData.canLay0, h0, h1, i1]
    · simp [PyData.depthAll, PyData.depth, h2]
      omega
theorem seen_shaped {c : List (Str × PyData)} (h : LayOk c) : SeqAt.shaped (seenD c) = true := by
  obtain ⟨h1, h2⟩ := seen_lay h
  unfold seenD
  simp [SeqAt.shaped, PyData.canLay0, PyData.depth, h1]
  omega
theorem seen_refl {c : List (Str × PyData)} (h : LayOk c) : PyData.eqv (seenD c) (seenD c) = true := by
  refine SeqAt.eqv_refl _ ?_
  unfold seenD
  simp [PyData.canLay0, (seen_lay h).1]
theorem reads_rows {h₀ h : Heap} {L : Addr} {nw : List (Addr × Obj)} (N : News h₀ L h nw) : ∀ {ys : List Value} {c : List (Str × PyData)}, ys.length = c.length → (∀ (i : Nat) (v : Value), ys[i]? = some v → ∃ a nm dv vv tn n, v = .ref a ∧ (a, tup3s nm (isB dv) vv tn n) ∈ nw ∧ c[i]? = some (nm, dv) ∧ Flat vv dv ∧ SeqAt.shaped dv = true) →
    ReadsAll h ys (c.map fun p => PyData.tuple [.str p.1, .bool (isB p.2), p.2]) []
  | [], [], _, _ => .nil
  | [], _ :: _, e, _ => nomatch e
  | _ :: _, [], e, _ => nomatch e
  | y :: ys, p :: c, e, hr => by
    obtain ⟨a, nm, dv, vv, tn, n, rfl, m, e2, f, _⟩ := hr 0 y rfl
    obtain rfl := Option.some.inj e2
    exact .cons (as := []) (bs := []) (reads_tuple_at (N _ m).1 rfl rfl (.cons (as := []) (bs := []) (.str nm tn) (.cons (as := []) (bs := []) (.bool _) (.cons (as := []) (bs := []) (f h) .nil)))) (reads_rows N (Nat.succ.inj e) fun i v hv => hr (i + 1) v hv)
theorem reads_seen {h₀ h : Heap} {L d : Addr} {n : Nat} {nw : List (Addr × Obj)} {ys : List Value} {c : List (Str × PyData)} (N : News h₀ L h nw) (hm : (d, listOf ys.toArray n) ∈ nw) (hS : SeenRows nw ys c) : Reads h (.ref d) (seenD c) [d] :=
  reads_list_at (N _ hm).1 rfl rfl (reads_rows N hS.1 hS.2)
section
variable {prog : Program} {w : World} {A : Around} {E : Value → Shared → Prop} {s : Shared}
theorem flat_isbool {v : Value} {dv : PyData} {Q : Value → Shared → Prop} (f : Flat v dv) (h : ∀ tk, Q (.bool (isB dv)) { s with toks := tk }) : wpAny (model prog w) A (call (.builtin "isinstance") [v, .type "bool"]) Q E s := by
  have f0 := f {}
  cases f0 with
  | none => exact call_isinstance (isinstance_false_none (by decide +kernel) F.isi_meta_bool F.sub_NoneType_bool) (h _)
  | bool b => exact call_isinstance (isinstance_true F.isi_meta_bool F.isi_self_bool) ⟨PySem.typeIs_bool _ _, h s.toks⟩
  | int i t => exact call_isinstance (isinstance_false_int (by decide +kernel) F.isi_meta_bool F.sub_int_bool) (h _)
  | str x t => exact call_isinstance (isinstance_false_str (by decide +kernel) F.isi_meta_bool F.sub_str_bool) (h _)
  | tuple ho _ _ _ => exact absurd (Heap.lt_size ho) (Nat.not_lt_zero _)
end
section
variable {pv : Program} {w : World} {dp un : Nat} {gd : Option (List Code)} {cn : Str} {cs : Scope} {a : Addr} {ccd : Value} {cl : List (Str × Addr)} {outer : List Env} {A₀ : Around} {base h₀ : Heap} {L : Addr} {m : Str → Option Value} {s : Shared} {Q E : Value → Shared → Prop} {loose : List Str} {mean : ExcName → Option Value} {mg mb : Str → Option Value} {rest : List (Addr × Obj)}
theorem story_call {news : List (Addr × Obj)} {lS lR : Addr} {rs qs : List Value} {n1 n2 : Nat} {S R : List Row3} {b zb zk zu : Int} {k u : Nat} {tb tk tu : Tok} (hzb : zb = b) (hzk : zk = (k : Int)) (hz : zu = (u : Int))
   (B : Below A₀ base outer h₀) (F : Fr h₀ L s.heap m) (X : (hd.heap_39 w.params).In h₀) (T : Top pv loose mean mg mb h₀) (hk : cs.kind = .function) (N : News h₀ L s.heap news) (hd : dp + k + 3 < recursionLimit) (hu : un + 100 * k + 200 < cLine)
   (mS : (lS, listOf rs.toArray n1) ∈ news) (mR : (lR, listOf qs.toArray n2) ∈ news) (rS : RowsAt news rs S) (rR : RowsAt news qs R)
   (hlen : S.length ≤ 100 ∧ R.length ≤ 100 ∧ u ≤ R.length) (hk4 : k ≤ 5) (hR : ∀ r ∈ R, 0 ≤ r.2.1 ∧ r.2.1 ≤ 3)
   (hret : ∀ h' tk' lF ex, Fr h₀ L h' m → News h₀ L h' (ex ++ news) → FoundAt lF ex (story S R b k u) → OwnOff ex (news.map (·.1)) → Q (.ref lF) { s with heap := h', toks := tk' }) :
   wpAny (model PX w) (ktrTop dp un gd cn cs L a ccd cl outer) (call (.ref 49) [.ref lS, .ref lR, .int zb tb, .int zk tk, .int zu tu]) Q E s := by
  subst hzb hzk hz
  exact story_ok k B F X T hk N hd hu mS mR rS rR hlen hk4 hR hret
end
/-- a told row's name and value -/
def noRow : TRow := ((0, 0), (0, 0), .none)
def outOf (T : List TRow) (p : Array Nat) : List (Str × PyData) := p.toList.map fun i => rowOut (T.getD i noRow)
def bornsOf (T : List TRow) : List (Int × Int) := T.map (·.1)
theorem told_born {news : List (Addr × Obj)} {ts : List Value} {T : List TRow} (h : ToldRows news ts T) : ∀ i v, ts[i]? = some v → BornAt news v ((bornsOf T).getD i (0, 0)).1 ((bornsOf T).getD i (0, 0)).2 := by
  intro i v hv
  obtain ⟨a, p, x, y, b, l, dv, vv, tn, t, t', n, k, e, m1, m2, hT, _, _⟩ := h.2 i v hv
  have hb : (bornsOf T).getD i (0, 0) = (x, y) := by
    unfold bornsOf
    rw [List.getD_eq_getElem?_getD, List.getElem?_map, hT]
    rfl
  rw [hb]
  exact ⟨a, p, _, _, _, t, t', n, k, e, m1, m2⟩
theorem out_at {nw : List (Addr × Obj)} {ts : List Value} {T : List TRow} {p : Array Nat} {i : Nat} {v : Value} (h : ToldRows nw ts T) (g : Good ts.length p) (hv : (p.toList.map fun i => ts.getD i Value.none)[i]? = some v) :
    ∃ a q b l dv vv tn n, v = .ref a ∧ (a, tup4 q (nameS b l) (isB dv) vv tn n) ∈ nw ∧ (outOf T p)[i]? = some (nameS b l, dv) ∧ Flat vv dv ∧ SeqAt.shaped dv = true := by
  rw [List.getElem?_map] at hv
  obtain ⟨j, hj, rfl⟩ := Option.map_eq_some_iff.mp hv
  have hlt : j < ts.length := List.mem_range.mp (g.perm.mem_iff.mp (List.mem_of_getElem? hj))
  obtain ⟨a, q, x, y, b, l, dv, vv, tn, t, t', n, k, e, m1, m2, hT, f, sh⟩ := h.2 j _ (List.getElem?_eq_getElem hlt)
  refine ⟨a, q, b, l, dv, vv, tn, n, ?_, m1, ?_, f, sh⟩
  · rw [List.getD_eq_getElem?_getD, List.getElem?_eq_getElem hlt, e]; rfl
  · unfold outOf
    rw [List.getElem?_map, hj]
    show some (rowOut (T.getD j noRow)) = _
    rw [List.getD_eq_getElem?_getD, hT]
    rfl
theorem out_len {n : Nat} {T : List TRow} {p : Array Nat} (g : Good n p) : (outOf T p).length = n := by
  unfold outOf
  rw [List.length_map, Array.length_toList, g.size]
def kNum (r : TRow) : Int := 5 * r.2.1.1 + r.2.1.2
theorem toldOne_mem {S R : List Row3} {m : Nat} {r : TRow} : r ∈ toldOne S R m ↔ story S R ((m / 5 : Nat) : Int) (m % 5) R.length = some (r.1, r.2.2) ∧ r.2.1 = (((m / 5 : Nat) : Int), ((m % 5 : Nat) : Int)) := by
  unfold toldOne
  cases h : story S R ((m / 5 : Nat) : Int) (m % 5) R.length with
  | none => simp
  | some x =>
    obtain ⟨q, y⟩ := x
    constructor
    · intro hm
      rw [List.mem_singleton.mp hm]
      exact ⟨rfl, rfl⟩
    · rintro ⟨h1, h2⟩
      injection h1 with h1
      injection h1 with h3 h4
      obtain ⟨r1, r2, r3⟩ := r
      dsimp only at h2 h3 h4
      rw [List.mem_singleton, h2, ← h3, ← h4]
theorem told_mem {S R : List Row3} {r : TRow} : ∀ {n : Nat}, r ∈ toldT S R n ↔ ∃ m, m < n ∧ r ∈ toldOne S R m
  | 0 => ⟨fun h => (nomatch h), fun ⟨m, h, _⟩ => absurd h (Nat.not_lt_zero m)⟩
  | n + 1 => by
    show r ∈ toldT S R n ++ toldOne S R n ↔ _
    rw [List.mem_append, told_mem]
    constructor
    · rintro (⟨m, hm, h⟩ | h)
      · exact ⟨m, by omega, h⟩
      · exact ⟨n, by omega, h⟩
    · rintro ⟨m, hm, h⟩
      by_cases e : m = n
      · subst e; exact .inr h
      · exact .inl ⟨m, by omega, h⟩
theorem one_num {S R : List Row3} {m : Nat} {r : TRow} (h : r ∈ toldOne S R m) : kNum r = (m : Int) := by
  have h2 := (toldOne_mem.mp h).2
  unfold kNum
  rw [h2]
  dsimp only
  omega
theorem told_inc {S R : List Row3} : ∀ n, (toldT S R n).Pairwise fun a b => kNum a < kNum b
  | 0 => .nil
  | n + 1 => by
    refine List.pairwise_append.mpr ⟨told_inc n, ?_, fun a ha b hb => ?_⟩
    · unfold toldOne
      split
      · exact .nil
      · exact List.pairwise_singleton _ _
    · obtain ⟨m, hm, h⟩ := told_mem.mp ha
      rw [one_num h, one_num hb]
      omega
theorem told_names (S R : List Row3) : ∀ r ∈ toldT S R 20, PyData.strOk (nameS r.2.1.1 r.2.1.2) = true := by
  intro r hr
  obtain ⟨m, hm, h⟩ := told_mem.mp hr
  rw [(toldOne_mem.mp h).2]
  have all : ∀ m ∈ List.range 20, PyData.strOk (nameS ((m / 5 : Nat) : Int) ((m % 5 : Nat) : Int)) = true := by decide +kernel
  exact all m (List.mem_range.mpr hm)
section
variable {S0 R : List Row3} (hS : StartOk 5 S0) (hR : ∀ r ∈ R, RowOk r) (hl : R.length ≤ 10)
include hS hR
theorem start_nodup : (S0.map fun r => (r.1, r.2.1)).Nodup := hS.1.nodup (by decide)
theorem start_len : S0.length ≤ 50 := by
  have := hS.1.length_le
  rw [List.length_map, List.length_cons, List.length_take] at this
  omega
theorem fine_end : Fine (100 * (R.length : Int)) (machE S0 R R.length) := fine_mach (start_nodup hS hR) hS.range (start_len hS hR) hR R.length (Nat.le_refl _)
theorem told_perm : (toldT S0 R 20).Perm (machE S0 R R.length) := by
  have F := fine_end hS hR
  refine (List.perm_ext_iff_of_nodup ?_ ?_).mpr fun r => ?_
  · exact (told_inc 20).imp fun {a b} h e => by rw [e] at h; omega
  · exact F.inc.imp fun {a b} h e => by rw [e] at h; omega
  · constructor
    · intro hr
      obtain ⟨m, hm, h⟩ := told_mem.mp hr
      obtain ⟨h1, h2⟩ := toldOne_mem.mp h
      rw [story_mach (start_nodup hS hR) hR R.length (Nat.le_refl _)] at h1
      have := findE_mem h1
      rw [← h2] at this
      exact this
    · intro hr
      obtain ⟨_, k1, k2, k3⟩ := F.key r hr
      have hf := mem_findE F.nod hr
      refine told_mem.mpr ⟨(5 * r.2.1.1 + r.2.1.2).toNat, by omega, toldOne_mem.mpr ?_⟩
      have e1 : (((5 * r.2.1.1 + r.2.1.2).toNat / 5 : Nat) : Int) = r.2.1.1 := by omega
      have e2 : (((5 * r.2.1.1 + r.2.1.2).toNat % 5 : Nat) : Int) = r.2.1.2 := by omega
      refine ⟨?_, by rw [e1, e2]⟩
      rw [story_mach (start_nodup hS hR) hR R.length (Nat.le_refl _), e1, e2]
      exact hf
omit hS hR in
theorem borns_at {T : List TRow} {i : Nat} (h : i < T.length) : (bornsOf T).getD i (0, 0) = T[i].1 := by
  unfold bornsOf
  rw [List.getD_eq_getElem?_getD, List.getElem?_map, List.getElem?_eq_getElem h]
  rfl
omit hS hR in
theorem keyB_at {T : List TRow} {i : Nat} (h : i < T.length) : keyB (bornsOf T) i = bk T[i] := by
  unfold keyB bk
  rw [borns_at h]
theorem born_range : ∀ i, i < (toldT S0 R 20).length → 0 ≤ ((bornsOf (toldT S0 R 20)).getD i (0, 0)).2 ∧ ((bornsOf (toldT S0 R 20)).getD i (0, 0)).2 < 100 := by
  intro i hi
  rw [borns_at hi]
  exact ((fine_end hS hR).key _ ((told_perm hS hR).mem_iff.mp (List.getElem_mem hi))).1
theorem born_inj : ∀ i j, i < (toldT S0 R 20).length → j < (toldT S0 R 20).length → keyB (bornsOf (toldT S0 R 20)) i = keyB (bornsOf (toldT S0 R 20)) j → i = j := by
  intro i j hi hj e
  rw [keyB_at hi, keyB_at hj] at e
  have nd : ((toldT S0 R 20).map bk).Nodup := by
    refine ((told_perm hS hR).map bk).nodup_iff.mpr ?_
    show List.Pairwise (· ≠ ·) _
    rw [List.pairwise_map]
    exact (fine_end hS hR).inc.imp fun {a b} h => by omega
  have nd := List.pairwise_iff_getElem.mp nd
  rcases Nat.lt_trichotomy i j with h | h | h
  · exact absurd (by rw [List.getElem_map, List.getElem_map]; exact e) (nd i j (by rw [List.length_map]; exact hi) (by rw [List.length_map]; exact hj) h)
  · exact h
  · exact absurd (by rw [List.getElem_map, List.getElem_map]; exact e.symm) (nd j i (by rw [List.length_map]; exact hj) (by rw [List.length_map]; exact hi) h)
theorem plain01 {p : Array Nat} (g : Good (toldT S0 R 20).length p) (u : Up (keyB (bornsOf (toldT S0 R 20))) p (toldT S0 R 20).length) : outOf (toldT S0 R 20) p = cfgR (cfgS S0) R := by
  have F := fine_end hS hR
  have P := told_perm hS hR
  generalize hT : toldT S0 R 20 = T at *
  have e1 : (p.toList.map fun i => T.getD i noRow).Perm T := by
    have h1 := g.perm.map fun i => T.getD i noRow
    have h2 : ((List.range T.length).map fun i => T.getD i noRow) = T := by
      refine List.ext_getElem (by rw [List.length_map, List.length_range]) fun i h1 h2 => ?_
      rw [List.getElem_map, List.getElem_range, List.getD_eq_getElem?_getD, List.getElem?_eq_getElem h2]
      rfl
    rw [h2] at h1
    exact h1
  have inc : (p.toList.map fun i => T.getD i noRow).Pairwise fun a b => bk a < bk b := by
    rw [List.pairwise_iff_getElem]
    intro i j hi hj hij
    rw [List.length_map, Array.length_toList] at hi hj
    have hjn : j < T.length := by rw [← g.size]; exact hj
    have hin : i < T.length := by omega
    have hu := u i j hij hjn
    unfold kp at hu
    rw [keyB_at (g.lt hin), keyB_at (g.lt hjn)] at hu
    rw [List.getElem_map, List.getElem_map]
    have q : ∀ k (hk : k < p.size) (hk2 : p.getD k 0 < T.length), T.getD (p.toList[k]'(by rw [Array.length_toList]; exact hk)) noRow = T[p.getD k 0] := by
      intro k hk hk2
      rw [← getD_at hk, List.getD_eq_getElem?_getD, List.getElem?_eq_getElem hk2]
      rfl
    rw [q i hi (g.lt hin), q j hj (g.lt hjn)]
    exact hu
  have e2 : (p.toList.map fun i => T.getD i noRow) = machE S0 R R.length := by
    have hp := e1.trans P
    first
    | exact hp.eq_of_pairwise (fun x y _ _ h1 h2 => absurd (Int.lt_trans h1 h2) (Int.lt_irrefl _)) inc F.inc
    | exact List.Perm.eq_of_pairwise (fun x y _ _ h1 h2 => absurd (Int.lt_trans h1 h2) (Int.lt_irrefl _)) inc F.inc hp
  have e3 := mach_out (start_nodup hS hR) hS.range (start_len hS hR) hR R.length (Nat.le_refl _)
  rw [List.take_length] at e3
  rw [e3, ← e2, List.map_map]
  rfl
end
section
local macro_rules | `(tactic| walk_at "newList") => `(tactic| (k_here; k_dflt (refine' newList_K ?k1 ?k2 ?_ ?z; (case k1 => k_asm); (case k2 => k_asm); (case z => first | exact Nat.zero_le _ | (with_unfolding_all exact Nat.le_of_ble_eq_true rfl) | size_fits); k_whole); intro l' h' F' N' l1; (try k_lt l1); (try k_sweep)))
local macro_rules | `(tactic| walk_at "call builtin:list.append") => `(tactic| (k_here; (with_reducible show wpAny _ _ (call (Value.builtin _) [Value.ref _, _]) _ _ _); k_dflt (refine' append_K ?k1 ?k2 ?k3 ?_ ?z; (case k1 => k_asm); (case k2 => k_asm); (case k3 => k_upd); (case z => first | (rw [sizeLine_eq]; simp only [Array.size_push, List.size_toArray]; omega) | (with_unfolding_all exact Nat.le_of_ble_eq_true rfl) | (rw [sizeLine_eq]; simp)); k_whole); intro h' F' N'; (try k_sweep)))
local macro_rules | `(tactic| walk_at "setItem ref int") => `(tactic| (k_here; (with_reducible show wpAny _ _ (setItem (Value.ref _) (Value.int _ _) (Value.int _ _)) _ _ _); k_dflt (refine' ksa_set ?k1 ?k2 ?k3 ?k4 ?k5 ?k6 ?k7 ?_; (case k1 => k_asm); (case k2 => k_asm); (case k3 => k_upd); (case k4 => with_reducible assumption); (case k5 => omega); (case k6 => omega); (case k7 => omega); k_whole); intro h' F' N' hi' hl' hs'; (try k_sweep)))
local macro_rules | `(tactic| walk_at "subscriptTail Name BinOp ref int") => `(tactic| (k_here; k_dflt (refine' ksa_sub ?k1 ?k2 ?k3 ?k4 ?k5 ?k6 ?_ ?k7; (case k1 => k_asm); (case k2 => k_mem); (case k3 => with_reducible assumption); (case k4 => omega); (case k5 => omega); (case k6 => omega); (case k7 => with_unfolding_all rfl); k_whole); intro _))
local macro_rules | `(tactic| walk_at "exec If") => `(tactic| (k_here; refine wpAny_If ?_))
local macro_rules | `(tactic| k_mem) => `(tactic| (repeat (first | with_reducible assumption | refine List.mem_cons_of_mem _ ?_)); done)
local macro_rules | `(tactic| walk_at "call ref") => `(tactic| (k_here; k_dflt (refine' value_spec ?B ?F ?X ?T ?hk ?N ?hd ?hu ?_; (case B => k_asm); (case F => k_asm); (case X => k_asm); (case T => k_asm); (case hk => first | exact rfl | assumption); (case N => k_asm); (case hd => ktr_room); (case hu => ktr_units); k_whole); intro h' tk' v' F' N' fv'))
local macro_rules | `(tactic| walk_at "call ref") => `(tactic| (k_here; k_dflt (refine' name_spec ?B ?F ?X ?T ?hk ?N ?hd ?hu ?hb ?hl ?_; (case B => k_asm); (case F => k_asm); (case X => k_asm); (case T => k_asm); (case hk => first | exact rfl | assumption); (case N => k_asm); (case hd => ktr_room); (case hu => ktr_units); (case hb => omega); (case hl => omega); k_whole); intro h' tk' t' F' N'))
local macro_rules | `(tactic| walk_at "exec For Tuple Tuple cons nil") => `(tactic| (k_here; (rename Fr _ _ _ _ => lF'); (have lG' := lF'); (with_unfolding_all refine' For_turns ?F ?_ ?hs ?hE); (case F => with_unfolding_all exact lG'); (case hs => (intro x'; with_unfolding_all exact rfl)); (case hE => passes_own); k_whole))
local macro_rules | `(tactic| walk_at "exec For Tuple Name cons nil") => `(tactic| (k_here; (rename Fr _ _ _ _ => lF'); (have lG' := lF'); (with_unfolding_all refine' For_turns ?F ?_ ?hs ?hE); (case F => with_unfolding_all exact lG'); (case hs => (intro x'; with_unfolding_all exact rfl)); (case hE => passes_own); k_whole))
local macro_rules | `(tactic| walk_at "setItem ref") => `(tactic| (k_here; (with_reducible show wpAny _ _ (setItem (Value.ref _) (Value.str _ _) _) _ _ _); k_dflt (refine' cfg_set ?F ?N ?U ?D ?v ?s ?c ?_; (case F => k_asm); (case N => k_asm); (case U => k_updF); (case D => with_reducible assumption); (case v => with_reducible assumption); (case s => with_reducible assumption); (case c => omega); k_whole); intro h' o' F' N' D'))
local macro_rules | `(tactic| walk_at "call ref") => `(tactic| (k_here; k_dflt (refine' remove_U ?B ?F ?X ?T ?hk ?N ?U ?hd ?hu ?lo ?D ?len ?_; (case B => k_asm); (case F => k_asm); (case X => k_asm); (case T => k_asm); (case hk => first | exact rfl | assumption); (case N => k_asm); (case U => k_updF); (case hd => ktr_room); (case hu => ktr_units); (case lo => with_reducible assumption); (case D => with_reducible assumption); (case len => omega); k_whole); intro h' tk' o' F' N' D'))
local macro_rules | `(tactic| walk_at "call ref") => `(tactic| (k_here; k_dflt (refine' save_U ?B ?F ?X ?T ?hk ?N ?U ?hd ?hu ?lo ?D ?V ?S ?len ?cv ?_; (case B => k_asm); (case F => k_asm); (case X => k_asm); (case T => k_asm); (case hk => first | exact rfl | assumption); (case N => k_asm); (case U => k_updF); (case hd => ktr_room); (case hu => ktr_units); (case lo => with_reducible assumption); (case D => with_reducible assumption); (case len => omega); (case V => with_reducible assumption); (case S => with_reducible assumption); (case cv => with_reducible assumption); k_whole); intro h' tk' o' F' N' D'))
local macro_rules | `(tactic| walk_at "call builtin:isinstance") => `(tactic| (k_here; (with_reducible show wpAny _ _ (call (Value.builtin _) [_, Value.type _]) _ _ _); k_dflt (refine' flat_isbool ?f ?_; (case f => with_reducible assumption); k_whole); intro tk'))
local macro_rules | `(tactic| walk_at "call ref") => `(tactic| (k_here; k_dflt (refine' story_call ?zb ?zk ?z ?B ?F ?X ?T ?hk ?N ?hd ?hu ?mS ?mR ?rS ?rR ?len ?k4 ?hR ?_; (case zb => exact Int.zero_add _); (case zk => exact Int.zero_add _); (case z => first | exact rfl | with_reducible assumption); (case B => k_asm); (case F => k_asm); (case X => k_asm); (case T => k_asm); (case hk => first | exact rfl | assumption); (case N => k_asm); (case mS => k_mem); (case mR => k_mem); (case rS => exact RowsAt.sub (by with_reducible assumption) (fun p hp => List.mem_cons_of_mem _ hp)); (case rR => exact RowsAt.sub (by with_reducible assumption) (fun p hp => List.mem_cons_of_mem _ hp)); (case hR => with_reducible assumption); (case len => omega); (case k4 => omega); (case hd => ktr_room); (case hu => ktr_units); k_whole); intro h' tk' lF' ex' F' N' FA' OF'; (rcases found_cases FA' with ⟨n', r', e'⟩ | ⟨x', y', dv', p', v', n', t', t2', k', r', e', f', sh'⟩) <;> (subst e'; (k_dflt (have ny1 := neN (OF' _ (List.Mem.head _) _ (List.Mem.head _)))); (try (k_dflt (have ny2 := neN (OF' _ (List.Mem.tail _ (List.Mem.head _)) _ (List.Mem.head _))))); (try dsimp only at ny1); (try dsimp only at ny2); (try simp only [List.cons_append, List.nil_append] at N'))))
local macro_rules | `(tactic| walk_at "call builtin:len") => `(tactic| (k_here; k_dflt (refine' KM.len_K ?N ?mm ?sz ?le ?_; (case N => k_asm); (case mm => k_mem); (case sz => exact (List.size_toArray).trans (by with_reducible assumption)); (case le => omega); k_whole)))
local macro_rules | `(tactic| walk_at "exec Assign cons ListComp") => `(tactic| (k_here; k_dflt (refine' seen_assign ?F ?hLe ?hsw ?hclos ?hcell ?hkind ?hnames ?hx ?hy ?hp ?_ ?hs); (case F => k_asm); (case hLe => with_unfolding_all rfl); (case hsw => with_unfolding_all rfl); (case hclos => with_unfolding_all rfl); (case hcell => decide); (case hkind => with_unfolding_all rfl); (case hnames => decide); (case hx => with_unfolding_all rfl); (case hy => with_unfolding_all rfl); (case hp => with_unfolding_all rfl); (case hs => intro _; with_unfolding_all rfl)))
local macro_rules | `(tactic| walk_at "eval ListComp") => `(tactic| (k_here; k_dflt (refine' row_eval ?F ?hclos ?hcell ?hkind ?hnames ?hx ?hx2 ?hx3 ?hx4 ?hn ?_ ?hs); (case F => k_asm); (case hclos => with_unfolding_all rfl); (case hcell => decide); (case hkind => with_unfolding_all rfl); (case hnames => decide); (case hx => with_unfolding_all rfl); (case hx2 => with_unfolding_all rfl); (case hx3 => with_unfolding_all rfl); (case hx4 => with_unfolding_all rfl); (case hn => decide); (case hs => intro _; with_unfolding_all rfl)))
local macro_rules | `(tactic| walk_at "subscriptTail Name Name ref str") => `(tactic| (k_here; k_dflt (refine' cfg_item ?N ?mm ?D ?g ?_; (case N => k_asm); (case mm => k_mem); (case D => with_reducible assumption); (case g => with_reducible assumption); k_whole); intro v' fv'))
local macro_rules | `(tactic| walk_at "call builtin:sorted") => `(tactic| (k_here; (with_reducible show wpAny _ _ (call (Value.builtin _) [Value.ref _]) _ _ _); k_dflt (refine' sorted_rows ?F ?N ?mm ?h64 ?hb ?hr ?hinj ?hu ?_; (case F => k_asm); (case N => k_asm); (case mm => k_mem); (case h64 => omega); (case hb => with_reducible assumption); (case hr => with_reducible assumption); (case hinj => with_reducible assumption); (case hu => ktr_units); k_whole); intro D' e' p' h' g' u' F' N' lt'))
local macro_rules | `(tactic| walk_at "eval Name") => `(tactic| (k_here; (with_reducible show wpAny _ _ (eval (Expr.Name _ _) (compEnvC _ _ _ _)) _ _ _); k_dflt (first | refine LCgL.ld_own (by k_asm) (by k_mem) (by with_reducible assumption) (by with_reducible assumption) ?_ | refine LCgL.ld_built (by k_asm) (by k_asm) (by k_asm) (by k_is) (by boot_by_name) (by decide) ?_)))
def Steps1 (i : Nat) (c : List Value × Nat × List Int) : Prop := IntsAre c.1 c.2.2 ∧ c.2.2.length = 1 + min i 9 ∧ ∀ x ∈ c.2.2, 0 ≤ x ∧ x < 784
theorem law01 : PySem.Challenge.rw_sn0001_01.Holds := hd (by
  k_fill
  k_go0
  all_goals try k_fold
  (repeat' ((fail_if_success (with_reducible show wpAny _ _ (pyIter (Value.ref _)) _ _ _)); (first | (k_unfold; (try dsimp only)) | (k_end; wrow_close) | walk1 | (dsimp only; walk1) | (leave1; walk_say "STEP leave1"; try dsimp only) | fail "no step")))
  (rename List Int => S)
  (rename ¬ _ < _ => hlen9)
  have hlen : S.length ≤ 63 := by omega
  (rename_i oS hqS dS tkS hR tkR t9 u9 v9 R9 F9 N9 K9)
  have hsm : Builtin.Range.small 0 (S.length : Int) 1 = true := small_one (by decide) (by decide) (by omega) (by omega)
  have hsz : Builtin.Range.rangeSize 0 (S.length : Int) 1 = ((S.length : Nat) : Int) := by rw [rangeSize_nat]; simp
  (rename IntsAre _ S => hI)
  k_dflt (refine loopR (σ := List Value × Nat × List Int) (n := S.length) (fun c => (_, listOf c.1.toArray c.2.1) :: _) (fun _ => []) [] (fun i c => Steps1 i c) ([.int (S.length : Int) _], 0, [(S.length : Int)]) rfl R9 hsm hsz F9 N9 (fun _ h => nomatch h) ⟨.cons _ _ .nil, rfl, fun x hx => by rw [List.mem_singleton.mp hx]; omega⟩ ?_ ?_)
  · rintro i t ⟨c, n, xs⟩ u h tk own hi hoff ⟨hP1, hP2, hP3⟩ F N
    simp only [List.cons_append, List.nil_append] at N
    have hc12 : c.length ≤ 10 := by rw [IntsAre.length hP1, hP2]; omega
    have hm0 : 0 ≤ (0 + (i : Int)).fmod 9 := Int.fmod_nonneg_of_pos _ (by decide)
    have hm1 : (0 + (i : Int)).fmod 9 < 9 := Int.fmod_lt_of_pos _ (by decide)
    dsimp only at hP1 hP2 hP3
    rcases Nat.lt_or_ge i 9 with h12 | h12
    · (repeat' ((fail_if_success (with_reducible show wpAny _ _ (pyIter (Value.ref _)) _ _ _)); (first | (k_unfold; (try dsimp only)) | (k_end; wrow_close) | walk1 | (dsimp only; walk1) | (leave1; walk_say "STEP leave1"; try dsimp only) | fail "no step")))
      (rename Fr _ _ _ _ => F2)
      (rename News _ _ _ _ => N2)
      rw [List.push_toArray] at N2
      refine loop_endX F2 ⟨(c ++ [_], n + 1, xs ++ [_]), ⟨ints_one hP1, ?_, ?_⟩, N2, hoff, hasNil, fun z h1 _ h3 => kstN h1 h3⟩
      · rw [List.length_append, hP2]
        simp only [List.length_cons, List.length_nil]
        omega
      · intro y hy
        rcases List.mem_append.mp hy with hy | hy
        · exact hP3 y hy
        · rw [List.mem_singleton.mp hy]
          exact ⟨Int.fmod_nonneg_of_pos _ (by decide), Int.fmod_lt_of_pos _ (by decide)⟩
    · have hxl : xs.length = 10 := by omega
      (repeat' ((fail_if_success (with_reducible show wpAny _ _ (pyIter (Value.ref _)) _ _ _)); (first | (k_unfold; (try dsimp only)) | (k_end; wrow_close) | walk1 | (dsimp only; walk1) | (leave1; walk_say "STEP leave1"; try dsimp only) | fail "no step")))
      (rename Fr _ _ _ _ => F2)
      (rename News _ _ _ _ => N2)
      (rename IntsAre _ _ => hI2)
      refine loop_endX F2 ⟨(_, n, _), ⟨hI2, ?_, ?_⟩, N2, hoff, hasNil, fun z h1 _ h3 => kstN h1 h3⟩
      · rw [List.length_set, hP2]
        omega
      · intro y hy
        rcases List.mem_or_eq_of_mem_set hy with hy | hy
        · exact hP3 y hy
        · rw [hy]
          exact ⟨Int.fmod_nonneg_of_pos _ (by decide), Int.fmod_lt_of_pos _ (by decide)⟩
  · rintro ⟨c, n, xs⟩ u h tk ⟨hP1, hP2, hP3⟩ F N
    dsimp only at N hP1 hP2 hP3
    have hxl : xs.length ≤ 10 := by omega
    (repeat' ((fail_if_success (with_reducible show wpAny _ _ (pyIter (Value.ref _)) _ _ _)); (first | (k_unfold; (try dsimp only)) | (k_end; wrow_close) | walk1 | (dsimp only; walk1) | (leave1; walk_say "STEP leave1"; try dsimp only) | fail "no step")))
    rename_i oB hB XB lS hSt tkx tky lR hR0 FR0 NR0 l1R hR1 FR NR
    rename Shared => s1
    k_dflt (refine loopL (σ := List Value × Nat × List (Addr × Obj) × List Row3) (fun q => (lR, listOf q.1.toArray q.2.1) :: (q.2.2.1 ++ [(lS, listOf c.toArray n), (s1.heap.objs.size + 1, oB)])) (fun _ => []) [] (fun i q => RunAt lR [(lS, listOf c.toArray n), (s1.heap.objs.size + 1, oB)] (fun R => R.length = i ∧ ∀ r ∈ R, RowOk r) q) ([], 0, [], []) rfl (fun _ => .tail _ (List.mem_append_right _ (.head _))) FR NR (fun _ h => nomatch h) ⟨⟨rfl, fun i v h => by simp at h⟩, ⟨rfl, fun _ h => nomatch h⟩, fun _ h => nomatch h⟩ ?_ ?_)
    · rintro i v ⟨rs, nR, tl, R⟩ u h tk own hv hoff hP F N
      obtain ⟨x, t, rfl, hx⟩ := Mine.IntsAre.at' hP1 hv
      have hx2 := hP3 x (List.mem_of_getElem? hx)
      have hil : i < xs.length := (List.getElem?_eq_some_iff.mp hx).1
      have hrl : rs.length = i := hP.1.1.trans hP.2.1.1
      obtain ⟨led, hled⟩ : ∃ q, q = (tl ++ [(lS, listOf c.toArray n), (s1.heap.objs.size + 1, oB)]) ++ own := ⟨_, rfl⟩
      have hneR : ∀ p ∈ led, p.1 ≠ lR := by
        intro p hp
        rw [hled] at hp
        rcases List.mem_append.mp hp with hp | hp
        · rcases List.mem_append.mp hp with hp | hp
          · exact hP.2.2 p hp lR (.head _)
          · rcases List.mem_cons.mp hp with e | hp
            · rw [e]; exact Nat.ne_of_lt l1R.1
            · rw [List.mem_singleton.mp hp]; exact Nat.ne_of_lt l1R.2
        · exact hoff p hp lR (.head _)
      change News _ _ h ((lR, listOf rs.toArray nR) :: ((tl ++ [(lS, listOf c.toArray n), (s1.heap.objs.size + 1, oB)]) ++ own)) at N
      rw [← hled] at N
      have hq1 := Int.fmod_nonneg_of_pos (x.fdiv 7) (b := 4) (by decide)
      have hq2 := Int.fmod_lt_of_pos (x.fdiv 7) (b := 4) (by decide)
      have hr1 := Int.fmod_nonneg_of_pos (x.fdiv 28) (b := 4) (by decide)
      have hr2 := Int.fmod_lt_of_pos (x.fdiv 28) (b := 4) (by decide)
      (repeat' ((fail_if_success (with_reducible show wpAny _ _ (pyIter (Value.ref _)) _ _ _)); (first | (k_unfold; (try dsimp only)) | (k_end; wrow_close) | walk1 | (dsimp only; walk1) | (leave1; walk_say "STEP leave1"; try dsimp only) | fail "no step")))
      all_goals
        (rename Fr _ _ _ _ => F2)
        (rename News _ _ _ _ => N2)
        rw [List.push_toArray] at N2
      · obtain ⟨c', hc', N3, off3⟩ := rows_turn (ok' := fun R => R.length = i + 1 ∧ ∀ r ∈ R, RowOk r) (dv := valD 1) hled N2 (by k_dflt assumption) hoff hP (Flat.str _ _) (valD_shaped 1) (fun h => ⟨by rw [List.length_append, h.1]; rfl, fun r hr => (List.mem_append.mp hr).elim (h.2 r) fun hr => by rw [List.mem_singleton.mp hr]; exact ⟨.inl rfl, by decide, by decide, 1, rfl⟩⟩)
        exact loop_endX F2 ⟨c', hc', N3, off3, hasNil, fun z h1 _ h3 => kstN h1 h3⟩
      · obtain ⟨c', hc', N3, off3⟩ := rows_turn (ok' := fun R => R.length = i + 1 ∧ ∀ r ∈ R, RowOk r) hled N2 (by k_dflt assumption) hoff hP (by with_reducible assumption) (valD_shaped _) (fun h => ⟨by rw [List.length_append, h.1]; rfl, fun r hr => (List.mem_append.mp hr).elim (h.2 r) fun hr => by rw [List.mem_singleton.mp hr]; exact ⟨.inr ⟨hq1, by dsimp only; omega⟩, hr1, by dsimp only; omega, _, rfl⟩⟩)
        exact loop_endX F2 ⟨c', hc', N3, off3, hasNil, fun z h1 _ h3 => kstN h1 h3⟩
    · rintro ⟨rs, nR, tl, R⟩ u h tk hP F N
      obtain ⟨rR, ⟨hR1, hR2⟩, offR⟩ := hP
      dsimp only at rR hR1 hR2 offR
      rw [IntsAre.length hP1] at hR1
      have hRlen : R.length ≤ 10 := by omega
      have hrs : rs.length ≤ 10 := by rw [rR.1]; exact hRlen
      obtain ⟨news, hnews⟩ : ∃ q, q = (lR, listOf rs.toArray nR) :: tl := ⟨_, rfl⟩
      have mR : (lR, listOf rs.toArray nR) ∈ news := by rw [hnews]; exact .head _
      have rR' : RowsAt news rs R := RowsAt.sub rR fun p hp => by rw [hnews]; exact .tail _ hp
      have hneC : ∀ p ∈ news, p.1 ≠ s1.heap.objs.size + 1 := by
        intro p hp
        rw [hnews] at hp
        rcases List.mem_cons.mp hp with e | hp
        · rw [e]; exact Nat.ne_of_gt l1R.2
        · exact offR p hp _ (.tail _ (.tail _ (.head _)))
      have N4 : News _ _ h ((s1.heap.objs.size + 1, oB) :: news) := News.sub N fun p hp => by
        rw [hnews] at hp
        rcases List.mem_cons.mp hp with e | hp
        · rw [e]; exact .tail _ (List.mem_append_right _ (.tail _ (.head _)))
        · rcases List.mem_cons.mp hp with e | hp
          · rw [e]; exact .head _
          · exact .tail _ (List.mem_append_left _ hp)
      clear N
      (repeat' ((fail_if_success (with_reducible show wpAny _ _ (pyIter (Value.ref _)) _ _ _)); (first | (k_unfold; (try dsimp only)) | (k_end; wrow_close) | walk1 | (dsimp only; walk1) | (leave1; walk_say "STEP leave1"; try dsimp only) | fail "no step")))
      (rename Fr _ _ _ _ => FT)
      (rename News _ _ _ _ => NT)
      rename_i lSt hst lst hst2 D1 hd1 ld1 D2 hd2 ld2 D3 hd3 ld3 D4 hd4 ld4 D5 hd5 ld5 lT hT lTl
      obtain ⟨base, NB, mT, hK5, mC, subN, hneB⟩ := start_base NT ⟨lTl.2.2.2.2.2.1, ld5.2.2.2.2.1, ld4.2.2.2.1, ld3.2.2.1, ld2.2.1, ld1.1⟩ (by k_dflt assumption) (by k_dflt assumption)
      k_dflt (refine turnsT (σ := List Value × Nat × List (Addr × Obj) × List Row3 × Int × Tok) (fun q => (lSt, listOf q.1.toArray q.2.1) :: (q.2.2.1 ++ base)) (fun q => [(PySem.Str.ofString "total", .int q.2.2.2.2.1 q.2.2.2.2.2)]) [PySem.Str.ofString "base", PySem.Str.ofString "layer"] (fun i q => RunAt lSt base (StartOk i) (q.1, q.2.1, q.2.2.1, q.2.2.2.1)) ([_], 0, [_], [(3, 0, .str (PySem.Str.ofString "kept"))], S.sum.fmod 59049, _) rfl (fun _ => .tail _ (List.mem_append_right _ mT)) FT NB (by intro p hp; rw [List.mem_singleton.mp hp]; rfl) ⟨⟨rfl, ?_⟩, ⟨List.Sublist.refl _, ?_⟩, ?_⟩ ?_ ?_)
      · intro i v hv
        rcases i with _ | i
        · obtain rfl := Option.some.inj hv
          exact ⟨_, _, _, _, _, _, _, _, rfl, .head _, rfl, Flat.str _ _, by decide +kernel⟩
        · simp at hv
      · intro r hr
        rw [List.mem_singleton.mp hr]
        exact .inr rfl
      · intro p hp q hq
        rw [List.mem_singleton.mp hp]
        rcases List.mem_cons.mp hq with rfl | hq
        · exact Nat.ne_of_lt lst.1
        · obtain ⟨r, hr, rfl⟩ := List.mem_map.mp hq
          exact (hneB r hr).2.symm
      · rintro i v ⟨ss, nS, tl, S0, tot, tt⟩ u h tk own hv hoff hP F N
        obtain ⟨d, b, l, t, t', rfl, md, hk⟩ := hK5 i v hv
        dsimp only at hP
        have hsl : ss.length ≤ 6 := by
          have := hP.2.1.1.length_le
          rw [List.length_map, List.length_cons, List.length_take, show K5.length = 5 from rfl] at this
          rw [hP.1.1]
          omega
        obtain ⟨led, hled⟩ : ∃ q, q = (tl ++ base) ++ own := ⟨_, rfl⟩
        have md' : (d, tp2 b l t t') ∈ led := by rw [hled]; exact List.mem_append_left _ (List.mem_append_right _ md)
        have hneS : ∀ p ∈ led, p.1 ≠ lSt := by
          intro p hp
          rw [hled] at hp
          rcases List.mem_append.mp hp with hp | hp
          · rcases List.mem_append.mp hp with hp | hp
            · exact hP.2.2 p hp lSt (.head _)
            · exact (hneB p hp).1
          · exact hoff p hp lSt (.head _)
        change News _ _ h ((lSt, listOf ss.toArray nS) :: ((tl ++ base) ++ own)) at N
        rw [← hled] at N
        (repeat' ((fail_if_success (with_reducible show wpAny _ _ (pyIter (Value.ref _)) _ _ _)); (first | (k_unfold; (try dsimp only)) | (k_end; wrow_close) | walk1 | (dsimp only; walk1) | (leave1; walk_say "STEP leave1"; try dsimp only) | fail "no step")))
        all_goals
          (rename Fr _ _ _ _ => F2)
          (rename News _ _ _ _ => N2)
        · rw [List.push_toArray] at N2
          obtain ⟨c', hc', N3, off3⟩ := rows_turn (ok' := StartOk (i + 1)) hled N2 (by k_dflt assumption) hoff hP (by with_reducible assumption) (valD_shaped _) (fun h => h.put hk (.inl ⟨_, rfl⟩))
          refine loop_endX F2 ⟨(c'.1, c'.2.1, c'.2.2.1, c'.2.2.2, tot.fdiv 9, _), hc', N3, off3, hasCons rfl hasNil, fun z h1 h2 h3 => ?_⟩
          have s0 := h2 _ (.head _)
          have s1 := (cont_cons h3).1
          have s2 := (cont_cons (cont_cons h3).2).1
          repeat (first | exact kstO h1 s0 h3 | refine (if_neg s0).trans ?_ | refine (if_neg s1).trans ?_ | refine (if_neg s2).trans ?_)
        · rw [hled] at N2
          refine loop_endX F2 ⟨(ss, nS, tl, S0, tot.fdiv 9, _), ⟨hP.1, hP.2.1.skip, hP.2.2⟩, N2, hoff, hasCons rfl hasNil, fun z h1 h2 h3 => ?_⟩
          have s0 := h2 _ (.head _)
          have s1 := (cont_cons h3).1
          have s2 := (cont_cons (cont_cons h3).2).1
          repeat (first | exact kstO h1 s0 h3 | refine (if_neg s0).trans ?_ | refine (if_neg s1).trans ?_ | refine (if_neg s2).trans ?_)
      · rintro ⟨ss, nS, tl3, S0, tot, tt⟩ u h tk hP F N
        obtain ⟨rS, okS, offS⟩ := hP
        dsimp only at rS okS offS N
        have hsl : S0.length ≤ 6 := by
          have := okS.1.length_le
          rw [List.length_map, List.length_cons, List.length_take, show K5.length = 5 from rfl] at this
          omega
        obtain ⟨news2, hnews2⟩ : ∃ q, q = (lSt, listOf ss.toArray nS) :: (tl3 ++ news) := ⟨_, rfl⟩
        have mS : (lSt, listOf ss.toArray nS) ∈ news2 := by rw [hnews2]; exact .head _
        have sub2 : ∀ p ∈ news, p ∈ news2 := fun p hp => by rw [hnews2]; exact .tail _ (List.mem_append_right _ hp)
        have mR2 := sub2 _ mR
        have rR2 : RowsAt news2 rs R := RowsAt.sub rR' sub2
        have rS2 : RowsAt news2 ss S0 := RowsAt.sub rS fun p hp => by rw [hnews2]; exact .tail _ (List.mem_append_left _ hp)
        have hneC2 : ∀ p ∈ news2, p.1 ≠ s1.heap.objs.size + 1 := by
          intro p hp
          rw [hnews2] at hp
          rcases List.mem_cons.mp hp with e | hp
          · rw [e]; exact Nat.ne_of_gt lst.2.1
          rcases List.mem_append.mp hp with hp | hp
          · exact offS p hp _ (.tail _ (List.mem_map_of_mem (f := Prod.fst) mC))
          · exact hneC p hp
        have N5 : News _ _ h ((s1.heap.objs.size + 1, oB) :: news2) := News.sub N fun p hp => by
          rcases List.mem_cons.mp hp with e | hp
          · rw [e]; exact .tail _ (List.mem_append_right _ mC)
          rw [hnews2] at hp
          rcases List.mem_cons.mp hp with e | hp
          · rw [e]; exact .head _
          rcases List.mem_append.mp hp with hp | hp
          · exact .tail _ (List.mem_append_left _ hp)
          · exact .tail _ (List.mem_append_right _ (subN p hp))
        clear N NT NB
        (repeat' ((fail_if_success (with_reducible show wpAny _ _ (pyIter (Value.ref _)) _ _ _)); (first | (k_unfold; (try dsimp only)) | (k_end; wrow_close) | walk1 | (dsimp only; walk1) | (leave1; walk_say "STEP leave1"; try dsimp only) | fail "no step")))
        rename_i dC hC0 oC FC1 NC1 loC hsC fsC hiC fiC lC hC oB2 FC2 NC dB FC
        have C0 : IsCfg PX _ oC [] := ⟨⟨_, hsC, fsC⟩, fun p hp => nomatch hp⟩
        obtain ⟨base2, hb2⟩ : ∃ q, q = (s1.heap.objs.size + 1, oB2) :: news2 := ⟨_, rfl⟩
        have mB2 : (s1.heap.objs.size + 1, oB2) ∈ base2 := by rw [hb2]; exact .head _
        have sub3 : ∀ p ∈ news2, p ∈ base2 := fun p hp => by rw [hb2]; exact .tail _ hp
        have hneD : ∀ p ∈ base2, p.1 ≠ dC := by
          intro p hp
          rw [hb2] at hp
          rcases List.mem_cons.mp hp with e | hp
          · rw [e]; exact Nat.ne_of_lt lC.1
          · exact Nat.ne_of_lt (allLt_lt lC.2 p hp)
        rw [← hb2] at NC
        have rS3 : RowsAt base2 ss S0 := RowsAt.sub rS2 sub3
        have rR3 : RowsAt base2 rs R := RowsAt.sub rR2 sub3
        have mS3 := sub3 _ mS
        have mR3 := sub3 _ mR2
        clear FC1 NC1 hsC fsC hiC fiC
        k_dflt (refine turnsL (σ := Obj) (vs := ss) (nn := nS) (fun o => (dC, o) :: base2) (fun _ => []) [PySem.Str.ofString "base", PySem.Str.ofString "layer", PySem.Str.ofString "value"] (fun i o => IsCfg PX _ o (cfgS (S0.take i))) oC rfl (fun _ => .tail _ mS3) FC NC (fun _ h => nomatch h) C0 ?_ ?_)
        · rintro i v o u h tk own hv hoff hP F N
          obtain ⟨a, b, l, uv, t1, t2, nn, dv, rfl, m1, e2, f1, sh1⟩ := rS3.2 i v hv
          have hrg := okS.range _ (List.mem_of_getElem? e2)
          dsimp only at hrg hP
          have hcl := cfgS_len (S0.take i)
          have htl := List.length_take (i := i) (l := S0)
          have hnl := name_len (b := b) (l := l) hrg.2.1 (by omega)
          obtain ⟨led, hled⟩ : ∃ q, q = base2 ++ own := ⟨_, rfl⟩
          have m1' : (a, tup3 b l uv t1 t2 nn) ∈ led := by rw [hled]; exact List.mem_append_left _ m1
          have mB2' : (s1.heap.objs.size + 1, oB2) ∈ led := by rw [hled]; exact List.mem_append_left _ mB2
          have hneL : ∀ p ∈ led, p.1 ≠ dC := by
            intro p hp
            rw [hled] at hp
            exact (List.mem_append.mp hp).elim (hneD p) fun hp => hoff p hp dC (.head _)
          change News _ _ h ((dC, o) :: (base2 ++ own)) at N
          rw [← hled] at N
          (repeat' ((fail_if_success (with_reducible show wpAny _ _ (pyIter (Value.ref _)) _ _ _)); (first | (k_unfold; (try dsimp only)) | (k_end; wrow_close) | walk1 | (dsimp only; walk1) | (leave1; walk_say "STEP leave1"; try dsimp only) | fail "no step")))
          (rename Fr _ _ _ _ => F2)
          (rename News _ _ _ _ => N2)
          (rename IsCfg _ _ _ _ => D2)
          rw [hled] at N2
          refine loop_endX F2 ⟨_, by (show IsCfg _ _ _ (cfgS (S0.take (i + 1))); rw [cfgS_take e2]; exact D2), N2, hoff, hasNil, fun z h1 h2 h3 => ?_⟩
          have s1 := (cont_cons h3).1
          have s2 := (cont_cons (cont_cons h3).2).1
          have s3 := (cont_cons (cont_cons (cont_cons h3).2).2).1
          repeat (first | exact kstN h1 h3 | refine (if_neg s1).trans ?_ | refine (if_neg s2).trans ?_ | refine (if_neg s3).trans ?_)
        · rintro o u h tk hP F N
          rw [rS3.1, List.take_length] at hP
          (repeat' ((fail_if_success (with_reducible show wpAny _ _ (pyIter (Value.ref _)) _ _ _)); (first | (k_unfold; (try dsimp only)) | (k_end; wrow_close) | walk1 | (dsimp only; walk1) | (leave1; walk_say "STEP leave1"; try dsimp only) | fail "no step")))
          (rename Fr _ _ _ _ => FD)
          (rename News _ _ _ _ => ND)
          clear FC NC
          have hcS := cfgS_len S0
          k_dflt (refine turnsL (σ := Obj) (vs := rs) (nn := nR) (fun o => (dC, o) :: base2) (fun _ => []) [PySem.Str.ofString "base", PySem.Str.ofString "layer", PySem.Str.ofString "value", PySem.Str.ofString "back"] (fun i o => IsCfg PX _ o (cfgR (cfgS S0) (R.take i))) o rfl (fun _ => .tail _ mR3) FD ND (fun _ h => nomatch h) hP ?_ ?_)
          · rintro i v o u h tk own hv hoff hP F N
            obtain ⟨a, b, l, uv, t1, t2, nn, dv, rfl, m1, e2, f1, sh1⟩ := rR3.2 i v hv
            have hok := hR2 _ (List.mem_of_getElem? e2)
            obtain ⟨hok1, hok2, hok3, _⟩ := hok
            dsimp only at hok1 hok2 hok3 hP
            have hcl := cfgR_len (cfgS S0) (R.take i)
            have htl := List.length_take (i := i) (l := R)
            have hnl := name_len (b := b) (l := l) hok2 (by omega)
            obtain ⟨led, hled⟩ : ∃ q, q = base2 ++ own := ⟨_, rfl⟩
            have m1' : (a, tup3 b l uv t1 t2 nn) ∈ led := by rw [hled]; exact List.mem_append_left _ m1
            have mB2' : (s1.heap.objs.size + 1, oB2) ∈ led := by rw [hled]; exact List.mem_append_left _ mB2
            have hneL : ∀ p ∈ led, p.1 ≠ dC := by
              intro p hp
              rw [hled] at hp
              exact (List.mem_append.mp hp).elim (hneD p) fun hp => hoff p hp dC (.head _)
            change News _ _ h ((dC, o) :: (base2 ++ own)) at N
            rw [← hled] at N
            (repeat' ((fail_if_success (with_reducible show wpAny _ _ (pyIter (Value.ref _)) _ _ _)); (first | (k_unfold; (try dsimp only)) | (k_end; wrow_close) | walk1 | (dsimp only; walk1) | (leave1; walk_say "STEP leave1"; try dsimp only) | fail "no step")))
            all_goals
              (rename Fr _ _ _ _ => F2)
              (rename News _ _ _ _ => N2)
              (rename IsCfg _ _ _ _ => D2)
              rw [hled] at N2
              refine loop_endX F2 ⟨_, by (show IsCfg _ _ _ (cfgR (cfgS S0) (R.take (i + 1))); rw [cfgR_take e2]; unfold runStep; first | (rw [if_pos (show b < 0 by with_reducible assumption)]; exact D2) | (rw [if_neg (show ¬ b < 0 by with_reducible assumption)]; exact D2)), N2, hoff, hasNil, fun z h1 h2 h3 => ?_⟩
              have s1 := (cont_cons h3).1
              have s2 := (cont_cons (cont_cons h3).2).1
              have s3 := (cont_cons (cont_cons (cont_cons h3).2).2).1
              have s4 := (cont_cons (cont_cons (cont_cons (cont_cons h3).2).2).2).1
              repeat (first | exact kstN h1 h3 | refine (if_neg s1).trans ?_ | refine (if_neg s2).trans ?_ | refine (if_neg s3).trans ?_ | refine (if_neg s4).trans ?_)
          · rintro o u h tk hP F N
            rw [rR3.1, List.take_length] at hP
            have hCfg := hP
            (repeat' ((fail_if_success (with_reducible show wpAny _ _ (pyIter (Value.ref _)) _ _ _)); (first | (k_unfold; (try dsimp only)) | (k_end; wrow_close) | walk1 | (dsimp only; walk1) | (leave1; walk_say "STEP leave1"; try dsimp only) | fail "no step")))
            rename_i lTo hTo1 FTo1 NTo1 lTl2 hTo2 FTo2 NTo2 hTo3 tkTo tO1 tO2 tO3 RO FO NO KO
            clear FTo1 NTo1 FTo2 NTo2 KO
            obtain ⟨base3, hb3⟩ : ∃ q, q = (dC, o) :: base2 := ⟨_, rfl⟩
            have mD3 : (dC, o) ∈ base3 := by rw [hb3]; exact .head _
            have sub4 : ∀ p ∈ base2, p ∈ base3 := fun p hp => by rw [hb3]; exact .tail _ hp
            have hneTo : ∀ p ∈ base3, p.1 ≠ lTo := by
              intro p hp
              rw [hb3] at hp
              rcases List.mem_cons.mp hp with e | hp
              · rw [e]; exact Nat.ne_of_lt lTl2.1
              · exact Nat.ne_of_lt (allLt_lt lTl2.2 p hp)
            rw [← hb3] at NO
            have rS4 : RowsAt base3 ss S0 := RowsAt.sub rS3 sub4
            have rR4 : RowsAt base3 rs R := RowsAt.sub rR3 sub4
            have mS4 := sub4 _ mS3
            have mR4 := sub4 _ mR3
            have hRl : ∀ r ∈ R, 0 ≤ r.2.1 ∧ r.2.1 ≤ 3 := fun r hr => ⟨(hR2 r hr).2.1, (hR2 r hr).2.2.1⟩
            have hrsN : rs.length = R.length := rR.1
            have hsm4 : Builtin.Range.small 0 4 1 = true := by decide
            have hsz4 : Builtin.Range.rangeSize 0 4 1 = ((4 : Nat) : Int) := by decide
            have hsm5 : Builtin.Range.small 0 5 1 = true := by decide
            have hsz5 : Builtin.Range.rangeSize 0 5 1 = ((5 : Nat) : Int) := by decide
            k_dflt (refine loopR (σ := List Value × Nat × List (Addr × Obj)) (n := 4) (fun q => (lTo, listOf q.1.toArray q.2.1) :: (q.2.2 ++ base3)) (fun _ => []) [PySem.Str.ofString "layer", PySem.Str.ofString "found"] (fun i q => ToldSt lTo base3 (toldT S0 R (5 * i)) q) ([], 0, []) rfl RO hsm4 hsz4 FO NO (fun _ h => nomatch h) ⟨⟨rfl, fun i v h => by simp at h⟩, fun _ h => nomatch h⟩ ?_ ?_)
            · rintro i t ⟨ts, nT, tl⟩ u h tk own hi hoff hP F N
              (repeat' ((fail_if_success (with_reducible show wpAny _ _ (pyIter (Value.ref _)) _ _ _)); (first | (k_unfold; (try dsimp only)) | (k_end; wrow_close) | walk1 | (dsimp only; walk1) | (leave1; walk_say "STEP leave1"; try dsimp only) | fail "no step")))
              (rename IsRange _ _ _ _ _ _ _ _ => RI)
              (rename Fr _ _ _ _ => FI)
              (rename News _ _ _ _ => NI)
              have hP2 := ToldSt.widen hP hoff
              rw [List.cons_append, List.append_assoc] at NI
              k_dflt (refine loopR (σ := List Value × Nat × List (Addr × Obj)) (n := 5) (fun q => (lTo, listOf q.1.toArray q.2.1) :: (q.2.2 ++ (base3 ++ own))) (fun _ => []) [PySem.Str.ofString "found"] (fun j q => ToldSt lTo (base3 ++ own) (toldT S0 R (5 * i + j)) q) (ts, nT, tl) rfl RI hsm5 hsz5 FI NI (fun _ h => nomatch h) hP2 ?_ ?_)
              · rintro j t' ⟨ts, nT, tl2⟩ u' h' tk' own2 hj hoff2 hP3 F N
                have htl := toldT_len S0 R (5 * i + j)
                have hts : ts.length ≤ 20 := by rw [hP3.1.1]; omega
                obtain ⟨led, hled⟩ : ∃ q, q = (tl2 ++ (base3 ++ own)) ++ own2 := ⟨_, rfl⟩
                have subL : ∀ p ∈ base3, p ∈ led := fun p hp => by rw [hled]; exact List.mem_append_left _ (List.mem_append_right _ (List.mem_append_left _ hp))
                have mS5 := subL _ mS4
                have mR5 := subL _ mR4
                have rS5 := RowsAt.sub rS4 subL
                have rR5 := RowsAt.sub rR4 subL
                have hneT : ∀ p ∈ led, p.1 ≠ lTo := by
                  intro p hp
                  rw [hled] at hp
                  rcases List.mem_append.mp hp with hp | hp
                  · rcases List.mem_append.mp hp with hp | hp
                    · exact hP3.2 p hp lTo (.head _)
                    · rcases List.mem_append.mp hp with hp | hp
                      · exact hneTo p hp
                      · exact hoff p hp lTo (.head _)
                  · exact hoff2 p hp lTo (.head _)
                change News _ _ h' ((lTo, listOf ts.toArray nT) :: ((tl2 ++ (base3 ++ own)) ++ own2)) at N
                rw [← hled] at N
                (repeat' ((fail_if_success (with_reducible show wpAny _ _ (pyIter (Value.ref _)) _ _ _)); (first | (k_unfold; (try dsimp only)) | (k_end; wrow_close) | walk1 | (dsimp only; walk1) | (leave1; walk_say "STEP leave1"; try dsimp only) | fail "no step")))
                all_goals
                  (rename Fr _ _ _ _ => F2)
                  (rename News _ _ _ _ => N2)
                · rename story _ _ _ _ _ = none => hst
                  have N3 := News.drop1 N2
                  rw [hled] at N3
                  exact loop_endX F2 ⟨(ts, nT, tl2), by (show ToldSt lTo (base3 ++ own) (toldT S0 R (5 * i + (j + 1))) _; rw [toldT_none hj hst]; exact hP3), N3, hoff2, hasNil, fun z h1 h2 h3 => (if_neg (cont_cons h3).1).trans (kstN h1 h3)⟩
                · rename story _ _ _ _ _ = some _ => hst
                  rename OwnOff _ _ => OF
                  rw [List.push_toArray] at N2
                  obtain ⟨c', hc', N3, off3⟩ := told_row hled N2 (.tail _ (.head _)) (.tail _ (.tail _ (.head _))) (fun q hq => .tail _ (.tail _ (.tail _ hq))) (by k_dflt assumption) (fun q hq => OF _ (.tail _ (.head _)) q hq) hoff2 hP3 (by with_reducible assumption) (by with_reducible assumption)
                  rw [Int.zero_add, Int.zero_add, ← toldT_some hj hst] at hc'
                  exact loop_endX F2 ⟨c', hc', N3, off3, hasNil, fun z h1 h2 h3 => (if_neg (cont_cons h3).1).trans (kstN h1 h3)⟩
              · rintro ⟨ts, nT, tl2⟩ u' h' tk' hP3 F N
                rw [← List.append_assoc, ← List.cons_append] at N
                (repeat' ((fail_if_success (with_reducible show wpAny _ _ (pyIter (Value.ref _)) _ _ _)); (first | (k_unfold; (try dsimp only)) | (k_end; wrow_close) | walk1 | (dsimp only; walk1) | (leave1; walk_say "STEP leave1"; try dsimp only) | fail "no step")))
                refine loop_endX F ⟨(ts, nT, tl2), hP3.narrow, N, told_off hP3 hoff, hasNil, fun z h1 h2 h3 => (kstN (cont_cons h3).1 (cont_cons h3).2).trans (kstN h1 h3)⟩
            · rintro ⟨ts, nT, tl⟩ u h tk hP F N
              obtain ⟨news4, hn4⟩ : ∃ q, q = (lTo, listOf ts.toArray nT) :: (tl ++ base3) := ⟨_, rfl⟩
              have sub5 : ∀ p ∈ base3, p ∈ news4 := fun p hp => by rw [hn4]; exact .tail _ (List.mem_append_right _ hp)
              have mTo4 : (lTo, listOf ts.toArray nT) ∈ news4 := by rw [hn4]; exact .head _
              have rT4 : ToldRows news4 ts (toldT S0 R 20) := hP.1.sub fun p hp => by rw [hn4]; exact .tail _ (List.mem_append_left _ hp)
              have mB4 := sub5 _ (sub4 _ mB2)
              have mD4 := sub5 _ mD3
              obtain ⟨cF, hcF⟩ : ∃ q, q = cfgR (cfgS S0) R := ⟨_, rfl⟩
              rw [← hcF] at hCfg
              have hcFl : cF.length ≤ 30 := by
                have := cfgR_len (cfgS S0) R
                rw [hcF]; omega
              change News _ _ h ((lTo, listOf ts.toArray nT) :: (tl ++ base3)) at N
              rw [← hn4] at N
              (repeat' ((fail_if_success (with_reducible show wpAny _ _ (pyIter (Value.ref _)) _ _ _)); (first | (k_unfold; (try dsimp only)) | (k_end; wrow_close) | walk1 | (dsimp only; walk1) | (leave1; walk_say "STEP leave1"; try dsimp only) | fail "no step")))
              (rename Fr _ _ _ _ => F6)
              (rename News _ _ _ _ => N6)
              refine ⟨dC, o, cF, news4, rfl, rfl, F6, N6, mD4, hCfg, loC, by omega, fun s₂ hs₂ => ?_⟩
              obtain ⟨hh2, rfl⟩ := hs₂
              refine comp_ind (n := cF.length) (fun i ys nw => SeenRows nw ys (cF.take i) ∧ ∀ p ∈ news4, p ∈ nw) ?_ ?_ cF.length 0 [] news4 (Nat.zero_add _) ⟨SeenRows.nil, fun p hp => hp⟩
              · rintro i ys nw hi ⟨hJ1, hJ2⟩ v I oI C oC D m₂ h3 tk3 E3 ⟨p, tp, hp, rfl⟩ hoC hmx F3 N3 off3 ne3
                have mB5 := hJ2 _ mB4
                have mD5 := hJ2 _ mD4
                have hg := getC_at hCfg.nodup hp
                have hshp := hCfg.2 p (List.mem_of_getElem? hp)
                (repeat' ((fail_if_success (with_reducible show wpAny _ _ (pyIter (Value.ref _)) _ _ _)); (first | (k_unfold; (try dsimp only)) | (k_end; wrow_close) | walk1 | (dsimp only; walk1) | (leave1; walk_say "STEP leave1"; try dsimp only) | fail "no step")))
                rename_i DQ hQ2 FQ NQ lQ
                refine comp_row FQ NQ (by k_dflt assumption) off3 (.tail _ mD5) ⟨?_, fun q hq => .tail _ (hJ2 q hq)⟩
                show SeenRows _ _ (cF.take (i + 1))
                rw [List.take_add_one, hp]
                exact (hJ1.sub fun q hq => .tail _ hq).snoc (.head _) (by with_reducible assumption) hshp
              · rintro ys nw ⟨hJ1, hJ2⟩
                rw [List.take_length] at hJ1
                unfold LCg.FinA
                intro dS h9 tk9 F9 N9 o9
                obtain ⟨news5, hn5⟩ : ∃ q, q = (dS, listOf ys.toArray ys.length) :: nw := ⟨_, rfl⟩
                have N9 : News _ _ h9 ((dS, listOf ys.toArray ys.length) :: nw) := N9
                rw [← hn5] at N9
                have sub6 : ∀ q ∈ nw, q ∈ news5 := fun q hq => by rw [hn5]; exact .tail _ hq
                have mSeen : (dS, listOf ys.toArray ys.length) ∈ news5 := by rw [hn5]; exact .head _
                have rSeen : SeenRows news5 ys cF := hJ1.sub sub6
                have mTo5 := sub6 _ (hJ2 _ mTo4)
                have rT5 : ToldRows news5 ts (toldT S0 R 20) := rT4.sub fun q hq => sub6 _ (hJ2 q hq)
                have hbT := told_born rT5
                have hlT := rT5.1
                have hl20 := toldT_len S0 R 20
                have hrT := born_range okS hR2
                have hiT := born_inj okS hR2
                have hpT := fun p => plain01 okS hR2 (p := p)
                rw [← hcF] at hpT
                have hnT := told_names S0 R
                rw [← hlT] at hrT hiT
                generalize toldT S0 R 20 = T at *
                clear rT4
                (repeat' ((fail_if_success (with_reducible show wpAny _ _ (pyIter (Value.ref _)) _ _ _)); (first | (k_unfold; (try dsimp only)) | (k_end; wrow_close) | walk1 | (dsimp only; walk1) | (leave1; walk_say "STEP leave1"; try dsimp only) | fail "no step")))
                rename_i dO eO pO hO gO uO FO2 NO2 ltO
                have hvl : (pO.toList.map fun i => ts.getD i Value.none).length = ts.length := by rw [List.length_map, Array.length_toList, gO.size]
                have hcE : outOf T pO = cF := hpT pO (hlT ▸ gO) (hlT ▸ uO)
                refine ⟨dO, _, eO, _, rfl, rfl, FO2, NO2, by rw [hvl]; omega, fun i ys2 nw2 => SeenRows nw2 ys2 (cF.take i) ∧ ∀ q ∈ (dO, listOf (pO.toList.map fun i => ts.getD i Value.none).toArray eO) :: news5, q ∈ nw2, ⟨SeenRows.nil, fun q hq => hq⟩, fun i ys2 nw2 hJ => hJ.2 _ (.head _), ?_, ?_⟩
                · rintro i ys2 nw2 v ⟨hK1, hK2⟩ hv
                  obtain ⟨a, q, b, l, dv, vv, tn, n, rfl, ma, hout, f, sh⟩ := out_at (rT5.sub fun q hq => hK2 q (.tail _ hq)) gO hv
                  rw [hcE] at hout
                  refine ⟨a, .ref q, .str (nameS b l) tn, .bool (isB dv), vv, n, rfl, ma, ?_⟩
                  intro I oI C oC D m₂ h3 tk3 E3 hoC hm1 hm2 hm3 hm4 F3 N3 off3 ne3
                  (repeat' ((fail_if_success (with_reducible show wpAny _ _ (pyIter (Value.ref _)) _ _ _)); (first | (k_unfold; (try dsimp only)) | (k_end; wrow_close) | walk1 | (dsimp only; walk1) | (leave1; walk_say "STEP leave1"; try dsimp only) | fail "no step")))
                  rename_i DQ hQ2 FQ NQ lQ
                  refine comp_row FQ NQ (by k_dflt assumption) off3 trivial ⟨?_, fun q hq => .tail _ (hK2 q hq)⟩
                  show SeenRows _ _ (cF.take (i + 1))
                  rw [List.take_add_one, hout]
                  exact (hK1.sub fun q hq => .tail _ hq).snoc (.head _) f sh
                · rintro ys2 nw2 ⟨hK1, hK2⟩ dS2 h4 tk4 F4 N4 o4
                  have hcl2 : (pO.toList.map fun i => ts.getD i Value.none).length = cF.length := by rw [hvl, ← hcE, out_len gO]
                  rw [hcl2, List.take_length] at hK1
                  have lay : LayOk cF := rSeen.flats (by
                    intro p hp
                    rw [← hcE] at hp
                    unfold outOf at hp
                    obtain ⟨j, hj, rfl⟩ := List.mem_map.mp hp
                    have hjl : j < T.length := hlT ▸ List.mem_range.mp (gO.perm.mem_iff.mp hj)
                    refine hnT (T.getD j noRow) ?_
                    rw [List.getD_eq_getElem?_getD, List.getElem?_eq_getElem hjl]
                    exact List.getElem_mem _)
                  have N4 : News _ _ h4 ((dS2, listOf ys2.toArray ys2.length) :: nw2) := N4
                  have r1 := reads_seen (News.drop1 N4) (hK2 _ (.tail _ mSeen)) (rSeen.sub fun q hq => hK2 q (.tail _ hq))
                  have r2 := reads_seen N4 (.head _) (hK1.sub fun q hq => .tail _ hq)
                  dsimp only
                  k_dflt (refine eq_dataH r1 r2 (seen_shaped lay) (seen_shaped lay) ?_ ?_)
                  · ktr_units
                  rw [seen_refl lay]
                  (repeat' ((fail_if_success (with_reducible show wpAny _ _ (pyIter (Value.ref _)) _ _ _)); (first | (k_unfold; (try dsimp only)) | walk1 | (dsimp only; walk1) | (leave1; walk_say "STEP leave1"; try dsimp only) | fail "no step")))
                  rename Fr _ _ _ _ => FZ
                  with_reducible rename Shared.gens _ = #[] => hgZ
                  refine goodW_bool FZ hgZ (raisesW_false ?_) ?_
                  · wrow_none_raised
                  · wrow_post)
end
end Mine
theorem PySem.Challenge.cw_sn0001_01_holds : PySem.Challenge.rw_sn0001_01.Holds := by
  exact Mine.law01
