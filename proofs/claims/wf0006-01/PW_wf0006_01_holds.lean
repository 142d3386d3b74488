import PyProof.Rows.All
import Wide.All
import OpenK.AllK
import Wide.FinOn
import PySem.Challenge.RW_wf0006_01
open PySem PySem.W PySem.Calls PyProof.Rows PySem.Spec
set_option Elab.async false
set_option maxRecDepth 100000
set_option maxHeartbeats 8000000
namespace Mine

-- Hd
open_top hd for PySem.Challenge.rw_wf0006_01

-- B1
noncomputable abbrev PG : Program := PySem.Challenge.rw_wf0006_01.prog

structure Gd (w : World) (p : Program) (loose : List Str) (mg mb : Str → Option Value) (h : Heap) : Prop where
  k : (Mine.hd.heap_39 w.params).In h
  t : TopRead p loose mg mb h

abbrev Keep (h h' : Heap) : Prop := ∀ b o, h.get? b = some o → h'.get? b = some o

theorem Gd.keeps {w : World} {p : Program} {loose : List Str} {mg mb : Str → Option Value} {h h' : Heap} (G : Gd w p loose mg mb h) (k : Keep h h') : Gd w p loose mg mb h' :=
  ⟨G.k.keeps k, G.t.keeps k⟩

def LsAt (h : Heap) (a : Addr) (vs : List Value) : Prop := ∃ n, h.get? a = some (listOf vs.toArray n)
theorem LsAt.keeps {h h' : Heap} {a : Addr} {vs : List Value} (x : LsAt h a vs) (k : Keep h h') : LsAt h' a vs := let ⟨n, e⟩ := x; ⟨n, k _ _ e⟩
theorem LsAt.isList {h : Heap} {a : Addr} {vs : List Value} (x : LsAt h a vs) : h.IsList a vs.toArray := let ⟨n, e⟩ := x; ⟨_, e, rfl, n, rfl⟩

/-- a list of lists of ints -/
inductive Lists (h : Heap) : List Value → List (List Int) → Prop where
  | nil : Lists h [] []
  | cons {a : Addr} {vs : List Value} {ns : List Int} {r : List Value} {rs : List (List Int)} : LsAt h a vs → IntsAre vs ns → Lists h r rs → Lists h (.ref a :: r) (ns :: rs)
theorem Lists.keeps {h h' : Heap} (k : Keep h h') : ∀ {vs : List Value} {ws : List (List Int)}, Lists h vs ws → Lists h' vs ws
  | _, _, .nil => .nil
  | _, _, .cons a b c => .cons (a.keeps k) b (Lists.keeps k c)
theorem Lists.length {h : Heap} : ∀ {vs : List Value} {ws : List (List Int)}, Lists h vs ws → vs.length = ws.length
  | _, _, .nil => rfl
  | _, _, .cons _ _ c => by rw [List.length_cons, List.length_cons, c.length]
theorem Lists.get {h : Heap} : ∀ {vs : List Value} {ws : List (List Int)}, Lists h vs ws → ∀ (i : Nat) (v : Value), vs[i]? = some v → ∃ a us w, v = .ref a ∧ LsAt h a us ∧ IntsAre us w ∧ ws[i]? = some w
  | _, _, .nil, i, v, e => by simp at e
  | _, _, .cons (a := a) x y c, 0, v, e => by simp at e; exact ⟨a, _, _, e.symm, x, y, rfl⟩
  | _, _, .cons x y c, i + 1, v, e => by simpa using c.get i v (by simpa using e)

section
variable {w : World} {A : Around} {E : Value → Shared → Prop} {s : Shared} {p : Program} {loose : List Str} {mg mb : Str → Option Value}

theorem enter {name qual : Str} {params : Arguments} {body : List Stmt} {scope : Scope} {dV kV doc pm cdv ct oc : Value} {an od : Option Addr} {osl : Array (Option Value)} {f : Addr} {args : List Value} {Q : Value → Shared → Prop}
    (binds : List (Str × Value)) (G : Gd w p loose mg mb s.heap) (hroom : A.depth < recursionLimit)
    (ho : (Mine.hd.heap_39 w.params).lookup f = some ⟨oc, od, .func (fnOf name qual params body scope dV kV doc pm an cdv ct), osl⟩) (hcd : codeIn (Mine.hd.heap_39 w.params) cdv qual = true)
    (hbind : bindArgs (fnOf name qual params body scope dV kV doc pm an cdv ct) ⟨args, []⟩ = pure binds) (hloc : ∀ y ∈ binds, scope.names.lookup y.1 = some .local)
    (h : ∀ h₁, Fr s.heap s.heap.objs.size h₁ (fun y => binds.reverse.lookup y) →
      wpAny (model PG w) (A.deeper (envOf qual scope s.heap.objs.size f cdv)) (execs body (envOf qual scope s.heap.objs.size f cdv))
        (fun fl s' => Q (match fl with | .ret v => v | _ => .none) s') (fun _ _ => False) { s with heap := h₁, toks := s.toks + binds.length })
    (hco : scope.isCoroutine = false := by rfl) (hgen : scope.isGenerator = false := by rfl) (hk : scope.kind = .function := by rfl)
    (hcell : ∀ x ∈ scope.names, x.2 ≠ .cell := by decide) :
    wpAny (model PG w) A (call (.ref f) args) Q E s := by
  refine wpAny_call ?_
  refine codeAny_call_def (fd := fnOf name qual params body scope dV kV doc pm an cdv ct) (body := body) (binds := binds) hroom (G.k _ _ ho) rfl G.t.nolimit (codeRec_of G.k hcd) rfl (BindsTo.of_eq hbind) hcell hloc (fun h₁ hns hk₁ => ?_) hco hgen hk
  exact wpAny_mono (h h₁ ⟨hns, hk₁, Nat.le_refl _⟩) (fun fl s' q => q) (fun _ _ x => x.elim)
end

-- B2
section
variable {prog : Program} {w : World} {A : Around} {E : Value → Shared → Prop} {s : Shared} {env : Env} {h₀ : Heap}

theorem invEnd3 {L : Addr} {J : (Str → Option Value) → List (Addr × Obj) → Prop} {own news₁ : List (Addr × Obj)} {s₁ s₂ : Shared} (x : InvEndN h₀ L J own (news₁.map (·.1)) s₁ s₂) : LoopStep2 h₀ L own news₁ J s₁ .next s₂ := by
  obtain ⟨h', tk, m', news', nx, e, F, N, h1, h2, h3, j⟩ := x
  exact ⟨rfl, h', tk, m', nx, e, F, fun q hq => N q ((List.mem_append.mp hq).elim (h2 q) (h1 q)), h3, j⟩

/-- a loop over zip of two lists, by an invariant over the turn, the names and the ledger -/
theorem zip_loop {l1 l2 : Addr} {xs ys : Array Value} {xi xc : Str} {body : List Stmt} {Q : Flow → Shared → Prop} {m : Str → Option Value} {news : List (Addr × Obj)}
    (J : Nat → (Str → Option Value) → List (Addr × Obj) → Prop) (hh : A.handled = none)
    (hl1 : s.heap.IsList l1 xs) (hl2 : s.heap.IsList l2 ys) (F : Fr h₀ env.locals s.heap m) (N : News h₀ env.locals s.heap news)
    (n1 : l1 ≠ env.locals) (n2 : l2 ≠ env.locals) (h0 : J 0 m news)
    (step : ∀ i v0 v1 m₁ news₁ h tk own, i < min xs.size ys.size → xs[i]? = some v0 → ys[i]? = some v1 → J i m₁ news₁ → news₁.map (·.1) = news.map (·.1) →
      (∀ q ∈ own, ∀ b ∈ news.map (·.1), b ≠ l1 → b ≠ l2 → q.1 ≠ b) →
      Fr h₀ env.locals h (fun y => if y = xc then some v1 else if y = xi then some v0 else m₁ y) → News h₀ env.locals h (news₁ ++ own) →
      wpAny (model prog w) A (execs body env) (InvPostN h₀ env.locals (J (i + 1)) own (news₁.map (·.1)) { s with heap := h, toks := tk } Q) E { s with heap := h, toks := tk })
    (done : ∀ h' tk m' news', Fr h₀ env.locals h' m' → News h₀ env.locals h' news' → news'.map (·.1) = news.map (·.1) → J (min xs.size ys.size) m' news' → Q .next { s with heap := h', toks := tk }) :
    wpAny (model prog w) A (call (.type "zip") [.ref l1, .ref l2]) (fun xv s₁ => wpAny (model prog w) A (pyIter xv) (fun it s₂ => PairAt3 prog w A h₀ env xi xc body Q E it s₂) E s₁) E s := by
  obtain ⟨ol1, hol1, _⟩ := id hl1
  obtain ⟨ol2, hol2, _⟩ := id hl2
  have a1 : l1 < s.heap.objs.size := Heap.lt_size hol1
  have a2 : l2 < s.heap.objs.size := Heap.lt_size hol2
  have hLs : env.locals < s.heap.objs.size := F.ns.lt
  have hab : h₀.objs.size ≤ env.locals := F.above
  refine call_zip_2 hl1 hl2 fun h' hz hTI hTO hit1 hit2 hsz hk => ?_
  refine wpAny_pyIter_zip hz ?_
  have up : ∀ k, env.locals ≠ s.heap.objs.size + k := fun k e => Nat.ne_of_lt (Nat.lt_of_lt_of_le hLs (Nat.le_add_right _ k)) e
  have nw : ∀ k, h₀.get? (s.heap.objs.size + k) = none := fun k => Heap.get?_none_of_le (Nat.le_trans hab (Nat.le_trans (Nat.le_of_lt hLs) (Nat.le_add_right _ k)))
  have dn : ∀ q ∈ news, ∀ k, q.1 ≠ s.heap.objs.size + k := fun q hq k e => Nat.ne_of_lt (Nat.lt_of_lt_of_le (Heap.lt_size (N q hq).1) (Nat.le_add_right _ k)) e
  refine ⟨_, _, _, _, _, _, _, fun i v0 v1 => xs[i]? = some v0 ∧ ys[i]? = some v1, m, news, J, rfl, WalksT.zip2 hh _ _ _ _ _ l1 l2 (zipApart_new a1 a2) xs ys,
    (fun i vals ⟨x, y, hx, hy, e⟩ => ⟨x, y, e, hx, hy⟩), ?_, ?_, ?_, ⟨hz, hTI, ⟨_, _, hTO⟩, hit1, hit2, hl1.at fun o e => hk l1 o e, hl2.at fun o e => hk l2 o e⟩, F.keeps hk, N.grown hk, h0, ?_, ?_⟩
  · intro hm
    simp only [List.mem_cons, List.not_mem_nil, or_false] at hm
    rcases hm with e | e | e | e | e | e | e
    · exact up 4 e
    · exact up 2 e
    · exact up 3 e
    · exact up 0 e
    · exact up 1 e
    · exact n1 e.symm
    · exact n2 e.symm
  · intro b hb
    simp only [List.mem_cons, List.not_mem_nil, or_false] at hb
    rcases hb with rfl | rfl | rfl | rfl
    · exact nw 4
    · exact nw 3
    · exact nw 0
    · exact nw 1
  · intro q hq hm
    simp only [List.mem_cons, List.not_mem_nil, or_false] at hm
    rcases hm with e | e | e | e
    · exact dn q hq 4 e
    · exact dn q hq 3 e
    · exact dn q hq 0 e
    · exact dn q hq 1 e
  · rintro i v0 v1 m₁ news₁ s₁ own ⟨h, tk, rfl⟩ hlt ⟨hx, hy⟩ hJ hadr hown F₁ N₁
    refine wpAny_mono (step i v0 v1 m₁ news₁ h tk own hlt hx hy hJ hadr (fun q hq b hb b1 b2 e => ?_) F₁ (fun q hq => N₁ q ((List.mem_append.mp hq).elim (fun z => List.mem_append.mpr (.inr z)) fun z => List.mem_append.mpr (.inl z)))) (fun f s₂ p => ?_) fun _ _ e => e
    · obtain ⟨r, hr, rfl⟩ := List.mem_map.mp hb
      have hm := hown q hq
      simp only [List.mem_cons, List.not_mem_nil, or_false] at hm
      rw [e] at hm
      rcases hm with e | e | e | e | e | e | e
      · exact dn r hr 4 e
      · exact dn r hr 2 e
      · exact dn r hr 3 e
      · exact dn r hr 0 e
      · exact dn r hr 1 e
      · exact b1 e
      · exact b2 e
    · cases f with
      | ret v => exact p
      | brk => exact p
      | next => exact invEnd3 p
      | cont => exact invEnd3 p
  · intro h' tk m' news' F' N' ha hJ
    exact done h' tk m' news' F' N' ha hJ

theorem app_own {L : Addr} {m : Str → Option Value} {l : Addr} {us : List Value} {n : Nat} {own : List (Addr × Obj)} {x : Value} {Q : Value → Shared → Prop} (F : Fr h₀ L s.heap m) (N : News h₀ L s.heap ((l, W.listOf us.toArray n) :: own))
    (hown : ∀ q ∈ own, q.1 ≠ l) (hsz : us.length ≤ 16777216) (h : ∀ h' n', Fr h₀ L h' m → News h₀ L h' ((l, W.listOf (us ++ [x]).toArray n') :: own) → Q .none { s with heap := h' }) :
    wpAny (model prog w) A (call (.builtin "list.append") [.ref l, x]) Q E s := by
  refine append_K (hsz := by rw [List.size_toArray, sizeLine_eq]; exact hsz) F N (Upd.head hown) fun h' F' N' => h h' (n + 1) F' ?_
  rw [List.push_toArray] at N'; exact N'

theorem ext_own {L : Addr} {m : Str → Option Value} {l b : Addr} {us bs : List Value} {n : Nat} {own : List (Addr × Obj)} {Q : Value → Shared → Prop} (F : Fr h₀ L s.heap m) (N : News h₀ L s.heap ((l, W.listOf us.toArray n) :: own))
    (hown : ∀ q ∈ own, q.1 ≠ l) (hb : LsAt s.heap b bs) (hsz : us.length + bs.length ≤ 16777216) (h : ∀ h' n', Fr h₀ L h' m → News h₀ L h' ((l, W.listOf (us ++ bs).toArray n') :: own) → Q .none { s with heap := h' }) :
    wpAny (model prog w) A (call (.builtin "list.extend") [.ref l, .ref b]) Q E s := by
  obtain ⟨n2, hb⟩ := hb
  exact extend_in (own := []) (hsz := by rw [List.size_toArray, sizeLine_eq]; exact hsz) F N (fun _ h => nomatch h) hown hb fun h' n' F' N' => h h' n' F' N'

theorem loop_end {L : Addr} {J : (Str → Option Value) → List (Addr × Obj) → Prop} {m' : Str → Option Value} {own nx : List (Addr × Obj)} {adr : List Addr} {s₁ : Shared} {h' : Heap} {tk : Nat} {Q : Flow → Shared → Prop} (F : Fr h₀ L h' m') (N : News h₀ L h' (nx ++ own))
    (ha : nx.map (·.1) = adr) (hj : J m' nx) : InvPostN h₀ L J own adr s₁ Q .next { s₁ with heap := h', toks := tk } :=
  InvEndN.intro F N hj ha (fun _ hp => List.mem_append_left _ hp) (fun _ hp => List.mem_append_right _ hp)
end

-- B3
theorem ne_top {s : Shared} {a : Addr} {vs : List Value} (x : LsAt s.heap a vs) : a ≠ s.heap.objs.size := let ⟨_, e⟩ := x; Nat.ne_of_lt (Heap.lt_size e)
theorem map2 {a b : Str} {u v : Option Value} {m m₀ : Str → Option Value} (h : ∀ z, z ≠ a → z ≠ b → m z = m₀ z) : (fun z => if z = a then u else if z = b then v else m z) = fun z => if z = a then u else if z = b then v else m₀ z := by
  funext z
  by_cases e1 : z = a
  · rw [if_pos e1, if_pos e1]
  · rw [if_neg e1, if_neg e1]
    by_cases e2 : z = b
    · rw [if_pos e2, if_pos e2]
    · rw [if_neg e2, if_neg e2]; exact h z e1 e2
theorem done2 {a b : Str} {m m₀ : Str → Option Value} (h : ∀ z, z ≠ a → z ≠ b → m z = m₀ z) : m = fun z => if z = a then m a else if z = b then m b else m₀ z := by
  funext z
  by_cases e1 : z = a
  · rw [if_pos e1, e1]
  · rw [if_neg e1]
    by_cases e2 : z = b
    · rw [if_pos e2, e2]
    · rw [if_neg e2]; exact h z e1 e2
theorem same2 {a b : Str} {u v : Option Value} {m₀ : Str → Option Value} (z : Str) (h1 : z ≠ a) (h2 : z ≠ b) : (if z = a then u else if z = b then v else m₀ z) = m₀ z := (if_neg h1).trans (if_neg h2)
theorem ne_new {h₀ h : Heap} {L l a : Addr} {o : Obj} {vs : List Value} {r : List (Addr × Obj)} (N : News h₀ L h ((l, o) :: r)) (x : LsAt h₀ a vs) : l ≠ a := by
  rintro rfl
  obtain ⟨n, e⟩ := x
  have := (N (l, o) (.head _)).2.2
  rw [e] at this; cases this
theorem fmod2 (a : Int) : Int.fmod a 2 = a % 2 := Int.fmod_eq_emod_of_nonneg a (by decide)
theorem ints_cast {vs vs' : List Value} {ns ns' : List Int} (h : IntsAre vs ns) (e : vs = vs') (e' : ns = ns') : IntsAre vs' ns' := e ▸ e' ▸ h

-- S4
def mk (p : List Int × Int) : List Int := (if p.2 = 0 then [] else [34]) ++ p.1
def marks (ps : List (List Int × Int)) : List Int := (ps.map mk).flatten
def lineOf (ws : List (List Int)) (fs : List Int) : List Int := marks (ws.zip fs) ++ (if fs.sum % 2 = 1 then [34] else [])
theorem marks_snoc (ps : List (List Int × Int)) (p : List Int × Int) : marks (ps ++ [p]) = marks ps ++ mk p := by simp [marks]

theorem marks_take_le (ps : List (List Int × Int)) (i : Nat) : (marks (ps.take i)).length ≤ (marks ps).length := by
  have := congrArg List.length (show marks ps = marks (ps.take i) ++ marks (ps.drop i) from by
    unfold marks
    rw [← List.flatten_append, ← List.map_append, List.take_append_drop])
  rw [List.length_append] at this
  omega
theorem line_spec {w : World} {A : Around} {E : Value → Shared → Prop} {s : Shared} {p : Program} {loose : List Str} {mg mb : Str → Option Value} {Q : Value → Shared → Prop} (G : Gd w p loose mg mb s.heap) (hdp : A.depth < 900)
  (hh : A.handled = none) {items figs : Addr} {avs fvs : List Value} {ws : List (List Int)} {fs : List Int}
  (hi : LsAt s.heap items avs) (hf : LsAt s.heap figs fvs) (hw : Lists s.heap avs ws) (hfi : IntsAre fvs fs) (hlen : ws.length = fs.length)
  (h01 : ∀ f ∈ fs, f = 0 ∨ f = 1)
  (hsz : (marks (ws.zip fs)).length ≤ 1000)
  (hQ : ∀ D h' tk vs, Keep s.heap h' → s.heap.get? D = none → LsAt h' D vs → IntsAre vs (lineOf ws fs) → Q (.ref D) { s with heap := h', toks := tk }) :
  wpAny (model PySem.Challenge.rw_wf0006_01.prog w) A (call (.ref 61) [.ref items, .ref figs]) Q E s := by
  refine enter [("items", .ref items), ("figures", .ref figs)] G (Nat.lt_trans hdp (by decide)) rfl rfl rfl (locs rfl) (fun h₁ F' => ?_)
  have X' := G.k
  have T' := G.t
  have N' : News s.heap s.heap.objs.size h₁ [] := News.nil
  (try dsimp only)
  iterate 8 walk1
  refine For_pair3 s.heap (by exact hh) rfl rfl rfl ?_ (by intro _; rfl)
  iterate 7 walk1
  rename_i l _ _ h2 F2 N2
  refine Calls.spliced_nil ?_
  refine zip_loop (h₀ := s.heap) (fun i m news => (∀ z : Str, z ≠ "figure" → z ≠ "item" → m z = if z = "line" then some (.ref l) else List.lookup z ([("items", Value.ref items), ("figures", Value.ref figs)] : List (Str × Value)).reverse) ∧ ∃ us n, news = [(l, W.listOf us.toArray n)] ∧ IntsAre us (marks ((ws.zip fs).take i)))
     (by exact hh) (hi.keeps F2.keep).isList (hf.keeps F2.keep).isList F2 N2 ?_ ?_ ?_ ?_ ?_
  · exact ne_top hi
  · exact ne_top hf
  · exact ⟨fun _ _ _ => rfl, [], 0, rfl, by exact .nil⟩
  · rintro i v0 v1 m₁ news₁ h3 tk3 own hlt hx hy ⟨hm, us, n, rfl, hI⟩ hadr hoff F' N'
    rw [map2 hm] at F'
    obtain ⟨a, wv, wd, rfl, hwa, hwi, hwd⟩ := hw.get i v0 (by simpa using hx)
    obtain ⟨f, t, rfl, hfd⟩ := hfi.at i v1 (by simpa using hy)
    have hnxt : marks ((ws.zip fs).take (i + 1)) = marks ((ws.zip fs).take i) ++ mk (wd, f) := by
      rw [List.take_add_one, ← marks_snoc]
      congr 2
      simp [List.getElem?_zip_eq_some, hwd, hfd]
    have hf01 := h01 f (List.mem_of_getElem? hfd)
    obtain ⟨na, hna⟩ := hwa
    have hla : l ≠ a := fun e => by
      have := (N' (l, W.listOf us.toArray n) (by simp)).2.2
      rw [e, hna] at this; cases this
    simp only [List.cons_append, List.nil_append] at N'
    have hown : ∀ q ∈ own, q.1 ≠ l := fun q hq => hoff q hq l (by simp) (ne_new N' hi) (ne_new N' hf)
    have hlen1 : (marks ((ws.zip fs).take i)).length + (mk (wd, f)).length ≤ 1000 := by
      have := marks_take_le (ws.zip fs) (i + 1)
      rw [hnxt, List.length_append] at this
      omega
    have hus : us.length = (marks ((ws.zip fs).take i)).length := hI.length
    have hwv : wv.length = wd.length := hwi.length
    have hwk : wd.length ≤ (mk (wd, f)).length := by simp [mk]
    have hmk1 : f = 1 → (mk (wd, f)).length = wd.length + 1 := by rintro rfl; simp [mk]
    iterate 3 walk1
    walk1
    walk1
    rcases hf01 with rfl | rfl
    · rw [if_neg (by decide)]
      iterate 10 walk1
      rename Fr _ _ _ _ => F9
      rename News _ _ _ _ => N9
      refine ext_own F9 N9 hown ⟨na, F9.keep _ _ hna⟩ (by omega) fun h5 n5 F5 N5 => ?_
      refine wpAny_execs_nil (loop_end F5 (nx := [(l, _)]) N5 rfl ⟨by intro z h1 h2; simp only [if_neg h1, if_neg h2], _, _, rfl, ?_⟩)
      rw [hnxt]
      exact hI.append (by simpa [mk] using hwi)
    · rw [if_pos (by decide)]
      iterate 9 walk1
      rename Fr _ _ _ _ => F9
      rename News _ _ _ _ => N9
      refine app_own F9 N9 hown (by omega) fun h5 n5 F5 N5 => ?_
      iterate 11 walk1
      rename Fr _ _ _ _ => F9
      rename News _ _ _ _ => N9
      refine ext_own F9 N9 hown ⟨na, F9.keep _ _ hna⟩ (by have := hmk1 rfl; simp only [List.length_append, List.length_cons, List.length_nil]; omega) fun h5 n5 F5 N5 => ?_
      refine wpAny_execs_nil (loop_end F5 (nx := [(l, _)]) N5 rfl ⟨by intro z h1 h2; simp only [if_neg h1, if_neg h2], _, _, rfl, ?_⟩)
      rw [hnxt]
      have q := fun t => hI.append (IntsAre.append (IntsAre.cons 34 t .nil) hwi)
      simpa [mk, List.append_assoc] using q _
  · rintro h4 tk4 m4 news4 F' N' _ ⟨hm, us, n, rfl, hI⟩
    rw [done2 hm] at F'
    have hall : marks ((ws.zip fs).take (min avs.toArray.size fvs.toArray.size)) = marks (ws.zip fs) := by
      rw [List.take_of_length_le]
      rw [List.length_zip, List.size_toArray, List.size_toArray, hw.length, hfi.length]; exact Nat.le_refl _
    generalize m4 "figure" = ua at F'
    generalize m4 "item" = ub at F'
    iterate 10 walk1
    refine sumK (by exact hh) F' N' (hf.keeps F'.keep).isList hfi fun h' tk' t' F' N' => ?_
    iterate 5 walk1
    walk1
    · rename Int.fmod _ _ = 1 => hpar
      iterate 10 walk1
      rename Fr _ _ _ _ => F9
      rename News _ _ _ _ => N9
      refine app_own F9 (own := []) N9 (fun _ h => nomatch h) (by have := marks_take_le (ws.zip fs) (min avs.toArray.size fvs.toArray.size); have := hI.length; omega) fun h5 n5 F5 N5 => ?_
      iterate 5 walk1
      dsimp only
      exact hQ l _ _ _ F5.keep (N5 _ (.head _)).2.2 ⟨_, (N5 _ (.head _)).1⟩ (by
        have q := fun t => hI.append (IntsAre.cons 34 t .nil)
        rw [hall] at q
        rw [lineOf, if_pos (by rw [← fmod2]; exact hpar)]
        exact q _)
    · rename ¬ Int.fmod _ _ = 1 => hpar
      iterate 5 walk1
      dsimp only
      rename Fr _ _ _ _ => F5
      rename News _ _ _ _ => N5
      exact hQ l _ _ _ F5.keep (N5 _ (.head _)).2.2 ⟨_, (N5 _ (.head _)).1⟩ (by
        rw [hall] at hI
        rw [lineOf, if_neg (by rw [← fmod2]; exact hpar), List.append_nil]
        exact hI)

-- V5

/-- an iterator over a list, at place i -/
def Lit (o : Obj) (l : Addr) (i : Nat) : Prop := o.cls = .type "list_iterator" ∧ o.data = .fields #[.ref l, .int i 0]
theorem Lit.at {o : Obj} {l : Addr} {i : Nat} {h : Heap} {a : Addr} (x : Lit o l i) (e : h.get? a = some o) : h.IsListIter a l i := ⟨o, e, x.1, x.2⟩
section
variable {prog : Program} {w : World} {A : Around} {E : Value → Shared → Prop} {s : Shared}
theorem lit_special {it l : Addr} {i : Nat} {items : Array Value} {x : Value} {Q : Option Value → Shared → Prop} (hit : s.heap.IsListIter it l i)
    (hl : s.heap.IsList l items) (hx : items[i]? = some x)
    (hQ : ∀ h', h'.IsListIter it l (i + 1) → Heap.SameBut it s.heap h' → Q (some x) { s with heap := h' }) :
    wpAny (model prog w) A (callSpecial? (.ref it) (Str.ofString "__next__")) Q E s := by
  obtain ⟨o, ho, hc, hd⟩ := id hit
  obtain ⟨ol, hol, _, nl, hdl⟩ := hl
  refine wpAny_callSpecial?_slot (name := Str.ofString "__next__") hit.typeIs slot_listiter_next
    (wpAny_call_entry slot_listiter_next hit.typeIs entry_listiter_next ?_ (args_listiter_next _))
  show wpAny _ _ (field (.ref it) 0 >>= _) _ _ s
  refine wpAny_bind (wpAny_field ho hd (x := .ref l) rfl ?_)
  show wpAny _ _ (if (Value.ref l == Value.none) = true then _ else _) _ _ s
  rw [if_neg (show ¬ ((Value.ref l == Value.none) = true) from Bool.false_ne_true)]
  show wpAny _ _ (field (.ref it) 1 >>= _) _ _ s
  refine wpAny_bind (wpAny_field ho hd (x := .int i 0) rfl ?_)
  show wpAny _ _ (seqItems? (.ref l) >>= _) _ _ s
  refine wpAny_bind (wpAny_seqItems hol hdl ?_)
  simp only [Int.toNat_natCast, hx]
  refine wpAny_bind (wpAny_setField ho hd (by simp) (wpAny_pure ⟨x, rfl, hQ _ ?_ (Heap.SameBut.update ..)⟩))
  exact ⟨_, Heap.get?_update_self _ ho (Obj.isFreed_of_fields (Obj.data_mapFields hd _)), (Obj.cls_mapFields ..).trans hc, by
    rw [Obj.data_mapFields hd]; simp [rawInt]⟩

theorem lit_next {h₀ : Heap} {L it l : Addr} {m : Str → Option Value} {io : Obj} {i : Nat} {vs : List Value} {x : Value} {Q : Value → Shared → Prop}
    (F : Fr h₀ L s.heap m) (N : News h₀ L s.heap [(it, io)]) (hi : Lit io l i) (hl : LsAt h₀ l vs) (hx : vs[i]? = some x)
    (h : ∀ h' o', Fr h₀ L h' m → News h₀ L h' [(it, o')] → Lit o' l (i + 1) → Q x { s with heap := h' }) :
    wpAny (model prog w) A (call (.builtin "next") [.ref it]) Q E s := by
  have hm := N (it, io) (.head _)
  have hit := hi.at hm.1
  refine call_function_entry (by decide +kernel) (by decide +kernel) kdk_entry_next (kdk_args_next _) ?_
  unfold Builtin.«next»
  refine wpAny_bind (m := someArgs "next" 1 2 _) (wpAny_of_eq (a := [Value.ref it]) (by first | rfl | kernel_rfl!) ?_)
  dsimp only
  refine wpAny_bind (wpAny_specialOf (name := Str.ofString "__next__") hit.typeIs slot_listiter_next.lookup ?_)
  refine wpAny_ite_split (fun hab => absurd hab (by decide)) (fun _ => ?_)
  refine wpAny_bind (lit_special hit (hl.keeps F.keep).isList (by simpa using hx) fun h' hit' hs => ?_)
  obtain ⟨o', ho', hc', hd'⟩ := hit'
  exact wpAny_pure ⟨_, rfl, h h' o' (F.change hs hm.2.1 hm.2.2) (News.setIn (own := []) (rest := []) N (fun _ h => nomatch h) (fun _ h => nomatch h) hs ho') ⟨hc', hd'⟩⟩

theorem lit_iter {l : Addr} {items : Array Value} {Q : Value → Shared → Prop} (hl : s.heap.IsList l items)
    (hQ : Q (.ref s.heap.objs.size) { s with heap := s.heap.push { cls := .type "list_iterator", data := .fields #[.ref l, .int 0 0] } }) :
    wpAny (model prog w) A (call (.builtin "iter") [.ref l]) Q E s := by
  refine call_function_entry (by decide +kernel) (by decide +kernel) kdk_entry_iter (kdk_args_iter _) ?_
  unfold Builtin.«iter»
  refine wpAny_bind (m := someArgs "iter" 1 2 _) (wpAny_of_eq (a := [Value.ref l]) (by first | rfl | kernel_rfl!) ?_)
  show wpAny _ _ (pyIter (.ref l) >>= _) _ _ _
  refine wpAny_bind (wpAny_pyIter_list hl ?_)
  exact wpAny_pure ⟨_, rfl, hQ⟩
end

def val64 (bs : List Int) : Int := bs.foldl (fun v b => 64 * v + b % 64) 0
theorem val64_snoc (bs : List Int) (b : Int) : val64 (bs ++ [b]) = 64 * val64 bs + b % 64 := by simp [val64]
theorem val64_bound (bs : List Int) : 0 ≤ val64 bs ∧ val64 bs < 64 ^ bs.length := by
  suffices h : ∀ (l : List Int) (v : Int) (n : Nat), 0 ≤ v → v < 64 ^ n → 0 ≤ l.foldl (fun v b => 64 * v + b % 64) v ∧ l.foldl (fun v b => 64 * v + b % 64) v < 64 ^ (n + l.length) by
    have := h bs 0 0 (by decide) (by decide)
    rwa [Nat.zero_add] at this
  intro l
  induction l with
  | nil => intro v n h0 h1; exact ⟨h0, h1⟩
  | cons b r ih =>
    intro v n h0 h1
    have := ih (64 * v + b % 64) (n + 1) (by omega) (by rw [Int.pow_succ]; omega)
    rwa [show n + 1 + r.length = n + (b :: r).length from by simp; omega] at this
theorem or64 {v r : Int} (hv : 0 ≤ v) (h0 : 0 ≤ r) (h1 : r < 64) : Builtin.bitOr (v * 64) r = 64 * v + r := by
  rw [bitOr_and, bitAnd_pp (by omega) h0]
  have e : (v * 64).toNat &&& r.toNat = 0 := by
    have e1 : (v * 64).toNat = 2 ^ 6 * v.toNat := by omega
    rw [e1]
    have := Nat.two_pow_add_eq_or_of_lt (i := 6) (b := r.toNat) (by omega) v.toNat
    apply Nat.eq_of_testBit_eq
    intro j
    rw [Nat.testBit_and, Nat.testBit_two_pow_mul, Nat.zero_testBit]
    by_cases hj : j < 6
    · simp [Nat.not_le.mpr hj]
    · rw [Nat.testBit_lt_two_pow (x := r.toNat) (i := j)]
      · simp
      · exact Nat.lt_of_lt_of_le (by omega : r.toNat < 2 ^ 6) (Nat.pow_le_pow_right (by decide) (by omega))
  rw [e]; omega
theorem and64 {b : Int} (h0 : 0 ≤ b) (h1 : b < 128) : (Builtin.bitAnd b 64 = 0 ↔ b < 64) := by
  have : ∀ n : Fin 128, (Builtin.bitAnd (n.val : Int) 64 = 0 ↔ (n.val : Int) < 64) := by decide +kernel
  have q := this ⟨b.toNat, by omega⟩
  rwa [show ((⟨b.toNat, by omega⟩ : Fin 128).val : Int) = b from Int.toNat_of_nonneg h0] at q

theorem val_eq {o : Option Value} {a b : Int} {t : Tok} (h : o = some (.int a t)) (e : a = b) : ∃ t, o = some (.int b t) := ⟨t, e ▸ h⟩
theorem Fr.hide {h h₁ : Heap} {L it : Addr} {m : Str → Option Value} (F : Fr h L h₁ m) : Fr (h.hide it) L h₁ m := ⟨F.ns, fun b o e => F.keep b o (Heap.of_hide e), by rw [Heap.hide_size]; exact F.above⟩
theorem Keep.hide {hb h : Heap} {it : Addr} (k : Keep hb h) (hn : hb.get? it = none) : Keep hb (h.hide it) := fun b o e => (Heap.hide_ne h fun (q : b = it) => by rw [q, hn] at e; cases e).trans (k b o e)

theorem varint_spec {w : World} {A : Around} {E : Value → Shared → Prop} {s : Shared} {p : Program} {loose : List Str} {mg mb : Str → Option Value} {Q : Value → Shared → Prop} {hb : Heap}
  (G : Gd w p loose mg mb hb) (hk : Keep hb s.heap) (hdp : A.depth < 900) (hh : A.handled = none) {it l : Addr} {io : Obj} {i : Nat} {vs : List Value} {ns his rest : List Int} {last : Int}
  (hit : hb.get? it = none) (hio : s.heap.get? it = some io) (hi : Lit io l i) (hl : LsAt hb l vs) (hn : IntsAre vs ns) (hchunk : ns.drop i = his ++ last :: rest)
  (hhi : ∀ b ∈ his, 64 ≤ b ∧ b < 128) (hlast : 0 ≤ last ∧ last < 64) (hlen : his.length ≤ 9)
  (hQ : ∀ h' tk io' t, Keep (s.heap.hide it) h' → h'.get? it = some io' → Lit io' l (i + his.length + 1) → Q (.int (val64 (his ++ [last])) t) { s with heap := h', toks := tk }) :
  wpAny (model PySem.Challenge.rw_wf0006_01.prog w) A (call (.ref 35) [.ref it]) Q E s := by
  have hks : Keep hb (s.heap.hide it) := Keep.hide hk hit
  have G' := G.keeps hks
  refine enter [("iterator", .ref it)] (G.keeps hk) (Nat.lt_trans hdp (by decide)) rfl rfl rfl (locs rfl) (fun h₁ F₀ => ?_)
  have F' := Fr.hide (it := it) F₀
  have X' := G'.k
  have T' := G'.t
  have N' : News (s.heap.hide it) s.heap.objs.size h₁ [(it, io)] := fun q hq => by
    rcases List.mem_singleton.mp hq with rfl
    exact ⟨F₀.keep _ _ hio, Nat.ne_of_lt (Heap.lt_size hio), Heap.hide_self _ _⟩
  (try dsimp only)
  have hget : ∀ j b, (his ++ [last])[j]? = some b → ∃ t, vs[i + j]? = some (.int b t) := fun j b e => hn.get _ _ (by
    rw [← List.getElem?_drop, hchunk, show his ++ last :: rest = (his ++ [last]) ++ rest from by simp]
    exact List.getElem?_append_left (List.getElem?_eq_some_iff.mp e).1 ▸ e)
  have hrange : ∀ j b, (his ++ [last])[j]? = some b → 0 ≤ b ∧ b < 128 ∧ (b < 64 ↔ j = his.length) := by
    intro j b e
    rcases Nat.lt_trichotomy j his.length with q | q | q
    · rw [List.getElem?_append_left q] at e
      have := hhi b (List.mem_of_getElem? e); omega
    · subst q; simp at e; omega
    · rw [List.getElem?_eq_none (by simp; omega)] at e; cases e
  have hsome : ∀ j, j ≤ his.length → ∃ b, (his ++ [last])[j]? = some b := fun j hj => ⟨_, List.getElem?_eq_getElem (by simp; omega)⟩
  obtain ⟨b0, hb0⟩ := hsome 0 (Nat.zero_le _)
  obtain ⟨t0, hv0⟩ := hget 0 b0 hb0
  iterate 7 walk1
  refine Calls.spliced_nil ?_
  refine lit_next F' N' hi (hl.keeps hks) hv0 fun h2 io2 F' N' hi2 => ?_
  iterate 9 walk1
  rename Fr _ _ _ _ => F9
  rename News _ _ _ _ => N9
  have he0 : Builtin.bitAnd b0 63 = val64 ((his ++ [last]).take (0 + 1)) := by
    rw [List.take_add_one, hb0, bitAnd_m6]
    simp [val64]
  refine While_inv (fun n m news => ∃ j io' b, n = his.length - j ∧ (his ++ [last])[j]? = some b ∧ news = [(it, io')] ∧ Lit io' l (i + j + 1) ∧ (∃ t, m "val" = some (.int (val64 ((his ++ [last]).take (j + 1))) t)) ∧ (∃ t, m "b" = some (.int b t)) ∧ (∀ z : Str, z ≠ "val" → z ≠ "b" → m z = List.lookup z ([("iterator", Value.ref it)] : List (Str × Value)).reverse))
    F9 N9 ⟨0, io2, b0, rfl, hb0, rfl, hi2, val_eq rfl he0, ⟨_, rfl⟩, same2⟩ ?_
  · rintro n m₁ news₁ h4 tk4 F' N' ⟨j, io4, b, rfl, hb, rfl, hi4, ⟨t, hmv⟩, ⟨t', hmb⟩, hm⟩
    rw [done2 hm, hmv, hmb] at F'
    obtain ⟨hr0, hr1, hr2⟩ := hrange j b hb
    have hjl : j ≤ his.length := by
      have := (List.getElem?_eq_some_iff.mp hb).1
      simp at this; omega
    obtain ⟨hb0, hb1⟩ := val64_bound ((his ++ [last]).take (j + 1))
    have hb2 : val64 ((his ++ [last]).take (j + 1)) < 1152921504606846976 := by
      refine Int.lt_of_lt_of_le hb1 (Int.le_trans (b := 64 ^ 10) ?_ (by decide))
      exact_mod_cast Nat.pow_le_pow_right (n := 64) (by decide) (by rw [List.length_take]; simp; omega)
    generalize hvd : val64 ((his ++ [last]).take (j + 1)) = v at F' hb0 hb1 hb2
    iterate 6 walk1
    by_cases hj : b < 64
    · rw [if_neg (by simpa using (and64 hr0 hr1).mpr hj)]
      have hjj := hr2.mp hj
      subst hjj
      iterate 3 walk1
      rename Fr _ _ _ _ => F9
      rename News _ _ _ _ => N9
      dsimp only
      rw [← hvd, List.take_of_length_le (by simp)]
      exact hQ _ _ _ _ F9.keep (N9 _ (.head _)).1 hi4
    · rw [if_pos (by simpa using fun e => hj ((and64 hr0 hr1).mp e))]
      obtain ⟨b', hb'⟩ := hsome (j + 1) (by omega)
      obtain ⟨t'', hv'⟩ := hget _ _ hb'
      iterate 14 walk1
      rename Fr _ _ _ _ => F9
      rename News _ _ _ _ => N9
      refine Calls.spliced_nil ?_
      refine lit_next F9 N9 hi4 (hl.keeps hks) hv' fun h5 io5 F' N' hi5 => ?_
      iterate 10 walk1
      rename Fr _ _ _ _ => F9
      rename News _ _ _ _ => N9
      have hjlt : j < his.length := by omega
      refine wpAny_execs_nil (WhileStep.intro F9 N9 (n' := his.length - (j + 1)) (by omega) ⟨j + 1, io5, b', rfl, hb', rfl, hi5, val_eq rfl ?_, ⟨_, rfl⟩, ?_⟩)
      · rw [List.take_add_one (i := j + 1), hb', Option.toList_some, val64_snoc, hvd, bitAnd_m6]
        have := or64 hb0 (r := b' % 64) (by omega) (by omega)
        simpa using this
      · intro z h1 h2
        simp only [if_neg h1, if_neg h2]

-- CR
section
variable {prog : Program} {w : World} {A : Around} {h₀ : Heap} {L : Addr} {m : Str → Option Value} {env : Env} {ct elt : Expr} {x : Str} {scope : Scope} {cl : List (Str × Addr)} {s : Shared} {S : List (Addr × Obj) → Prop} {P : Nat → Value → Prop}
    {Fin : List Value → List (Addr × Obj) → Prop}
theorem compEnd_mono {s₁ : Shared} {I : Addr} {oI : Obj} {C : Addr} {oC : Obj} {D : Addr} {oD : Obj} {r r' : Value → List (Addr × Obj) → Prop} {y : Value} {s₂ : Shared} (x : LCg.CompEnd h₀ L m s₁ I oI C oC D oD S r y s₂) (h : ∀ y n, r y n → r' y n) :
    LCg.CompEnd h₀ L m s₁ I oI C oC D oD S r' y s₂ := let ⟨h', tk, n, a, b, c, d, e, f⟩ := x; ⟨h', tk, n, a, b, c, d, e, h _ _ f⟩

/-- a comprehension with one test, by an invariant -/
theorem restT_inv (J : Nat → Nat → List Value → List (Addr × Obj) → Prop) (zero : ∀ i ys news, J 0 i ys news → Fin ys news)
    (succ : ∀ k i ys news, J (k + 1) i ys news → ∀ v I oI C oC D m₂ h tk (E' : Value → Shared → Prop), P i v → LCg.NsObj oC m₂ → m₂ x = some v → Fr h₀ L h m → News h₀ L h ((I, oI) :: (C, oC) :: (D, LCg.lst ys) :: news) → LCg.Off3 I C D news →
      wpAny (model prog w) A (isTrue ct (compEnvC scope cl C env) (eval ct (compEnvC scope cl C env))) (fun ok s' => if ok = true then
        wpAny (model prog w) A (eval elt (compEnvC scope cl C env)) (LCg.CompEnd h₀ L m { s with heap := h, toks := tk } I oI C oC D (LCg.lst ys) S (fun y news' => J k (i + 1) (ys ++ [y]) news')) E' s'
        else LCg.CompEnd h₀ L m { s with heap := h, toks := tk } I oI C oC D (LCg.lst ys) S (fun _ news' => J k (i + 1) ys news') Value.none s') E' { s with heap := h, toks := tk }) :
    ∀ k i ys news, J k i ys news → LCt.CompRestT prog w A h₀ L m env ct elt x scope cl s S P Fin k i ys news := by
  intro k
  induction k with
  | zero => intro i ys news j; exact LCt.CompRestT.zero (zero i ys news j)
  | succ k ih =>
    intro i ys news j
    refine LCt.CompRestT.succ fun v I oI C oC D m₂ h tk E' hP hC hx F N off ne => ?_
    refine wpAny_mono (succ k i ys news j v I oI C oC D m₂ h tk E' hP hC hx F N off) (fun ok s' q => ?_) fun _ _ e => e
    split at q
    · rename_i e
      rw [if_pos e]
      exact wpAny_mono q (fun y s'' z => compEnd_mono z fun y n => ih _ _ _) fun _ _ e => e
    · rename_i e
      rw [if_neg e]
      exact compEnd_mono q fun y n => ih _ _ _

/-- a comprehension without test, by an invariant -/
theorem rest_inv (J : Nat → Nat → List Value → List (Addr × Obj) → Prop) (zero : ∀ i ys news, J 0 i ys news → Fin ys news)
    (succ : ∀ k i ys news, J (k + 1) i ys news → ∀ v I oI C oC D m₂ h tk (E' : Value → Shared → Prop), P i v → LCg.NsObj oC m₂ → m₂ x = some v → Fr h₀ L h m → News h₀ L h ((I, oI) :: (C, oC) :: (D, LCg.lst ys) :: news) → LCg.Off3 I C D news →
        wpAny (model prog w) A (eval elt (compEnvC scope cl C env)) (LCg.CompEnd h₀ L m { s with heap := h, toks := tk } I oI C oC D (LCg.lst ys) S (fun y news' => J k (i + 1) (ys ++ [y]) news')) E' { s with heap := h, toks := tk }) :
    ∀ k i ys news, J k i ys news → LCg.CompRest prog w A h₀ L m env elt x scope cl s S P Fin k i ys news := by
  intro k
  induction k with
  | zero => intro i ys news j; exact LCg.CompRest.zero (zero i ys news j)
  | succ k ih =>
    intro i ys news j
    refine LCg.CompRest.succ fun v I oI C oC D m₂ h tk E' hP hC hx F N off ne => ?_
    exact wpAny_mono (succ k i ys news j v I oI C oC D m₂ h tk E' hP hC hx F N off) (fun y s'' z => compEnd_mono z fun y n => ih _ _ _) fun _ _ e => e
end

-- V6
section
variable {w : World} {A : Around} {E : Value → Shared → Prop} {s : Shared} {p : Program} {loose : List Str} {mg mb : Str → Option Value}

theorem enterC {name qual : Str} {params : Arguments} {body : List Stmt} {scope : Scope} {dV kV doc pm cdv ct oc : Value} {an od : Option Addr} {osl : Array (Option Value)} {f : Addr} {args : List Value} {Q : Value → Shared → Prop}
    (binds : List (Str × Value)) (G : Gd w p loose mg mb s.heap) (hroom : A.depth < recursionLimit)
    (ho : (Mine.hd.heap_39 w.params).lookup f = some ⟨oc, od, .func (fnOf name qual params body scope dV kV doc pm an cdv ct), osl⟩) (hcd : codeIn (Mine.hd.heap_39 w.params) cdv qual = true)
    (hbind : bindArgs (fnOf name qual params body scope dV kV doc pm an cdv ct) ⟨args, []⟩ = pure binds)
    (hkind : (binds.all fun y => scope.names.lookup y.1 == some .local || scope.names.lookup y.1 == some .cell) = true)
    (hnd : ((cellsFrom 0 scope.names []).map (·.1)).Nodup)
    (h : ∀ h₁ tk cells, Fr s.heap s.heap.objs.size h₁ (bindL (envOfC qual scope s.heap.objs.size f cdv).kindOf binds fun _ => none) → News s.heap s.heap.objs.size h₁ cells →
      CellsAre (bindC (envOfC qual scope s.heap.objs.size f cdv).kindOf binds fun _ => none) (cellsFrom (s.heap.objs.size + 1) scope.names []) cells →
      wpAny (model PG w) (A.deeper (envOfC qual scope s.heap.objs.size f cdv)) (execs body (envOfC qual scope s.heap.objs.size f cdv))
        (fun fl s' => Q (match fl with | .ret v => v | _ => .none) s') (fun _ _ => False) { s with heap := h₁, toks := tk })
    (hco : scope.isCoroutine = false := by rfl) (hgen : scope.isGenerator = false := by rfl) (hk : scope.kind = .function := by rfl) :
    wpAny (model PG w) A (call (.ref f) args) Q E s := by
  refine wpAny_call ?_
  refine codeAny_call_cells (fd := fnOf name qual params body scope dV kV doc pm an cdv ct) hroom (G.k _ _ ho) rfl G.t.nolimit (codeRec_of G.k hcd) rfl hbind rfl (kindsX hkind _) (fun s₁ x => ?_) hco hgen hk
  obtain ⟨h₁, tk, rfl, _⟩ := x.done
  obtain ⟨cells, N, Y⟩ := Cl.news (h₀ := s.heap) (Nat.le_refl _) fun n c hm => ⟨x.cell n c (lookup_of_mem_nodup (cellsFrom_names scope.names 0 (s.heap.objs.size + 1) [] [] rfl ▸ hnd) hm), x.above n c hm⟩
  exact wpAny_mono (h h₁ tk cells ⟨x.toInCall.ns, x.toInCall.keep, x.toInCall.fresh⟩ N Y) (fun fl s' q => q) (fun _ _ x => x.elim)
end

theorem fr_hid {h₀ h h' : Heap} {L it : Addr} {m : Str → Option Value} (F : Fr h₀ L h m) (hn : h₀.get? it = none) (hL : it ≠ L) (k : Keep (h.hide it) h') : Fr h₀ L h' m :=
  ⟨F.ns.at' fun o e => k L o ((Heap.hide_ne h (Ne.symm hL)).trans e), fun b o e => k b o ((Heap.hide_ne h fun (q : b = it) => by rw [q, hn] at e; cases e).trans (F.keep b o e)), F.above⟩

abbrev Chunk := List Int × Int
def flat (cs : List Chunk) : List Int := (cs.map fun c => c.1 ++ [c.2]).flatten
def Chunk.ok (c : Chunk) : Prop := (∀ b ∈ c.1, 64 ≤ b ∧ b < 128) ∧ (0 ≤ c.2 ∧ c.2 < 64) ∧ c.1.length ≤ 9
def Chunk.num (c : Chunk) : Int := val64 (c.1 ++ [c.2])
theorem flat_cons (c : Chunk) (r : List Chunk) : flat (c :: r) = c.1 ++ c.2 :: flat r := by simp [flat]
theorem flat_snoc (r : List Chunk) (c : Chunk) : flat (r ++ [c]) = flat r ++ (c.1 ++ [c.2]) := by simp [flat]

theorem numbers_spec {w : World} {A : Around} {E : Value → Shared → Prop} {s : Shared} {p : Program} {loose : List Str} {mg mb : Str → Option Value} {Q : Value → Shared → Prop} (G : Gd w p loose mg mb s.heap) (hdp : A.depth < 800)
  (hh : A.handled = none) {l : Addr} {vs : List Value} {cs : List Chunk} (hl : LsAt s.heap l vs) (hn : IntsAre vs (flat cs)) (hok : ∀ c ∈ cs, c.ok) (hsz : (flat cs).length ≤ 1000)
  (hQ : ∀ D h' tk us, Keep s.heap h' → s.heap.get? D = none → LsAt h' D us → IntsAre us (cs.map Chunk.num) → Q (.ref D) { s with heap := h', toks := tk }) :
  wpAny (model PySem.Challenge.rw_wf0006_01.prog w) A (call (.ref 66) [.ref l]) Q E s := by
  refine enterC [("octets", .ref l)] G (Nat.lt_trans hdp (by decide)) rfl rfl rfl rfl (by decide +kernel) (fun h₁ tk cells F' N' Y' => ?_)
  have X' := G.k
  have T' := G.t
  k_cells Y'
  (try dsimp only)
  iterate 7 walk1
  refine Calls.spliced_nil ?_
  refine lit_iter (hl.keeps F'.keep).isList ?_
  have N1 := News.push F' N' ({ cls := .type "list_iterator", data := .fields #[.ref l, .int 0 0] } : Obj) rfl
  have F1 := F'.push ({ cls := .type "list_iterator", data := .fields #[.ref l, .int 0 0] } : Obj)
  have hnew : s.heap.objs.size + 1 ≠ h₁.objs.size := Nat.ne_of_lt (Heap.lt_size (N' _ (.head _)).1)
  generalize h₁.objs.size = it at F1 N1 hnew ⊢
  generalize h₁.push _ = h2 at F1 N1 ⊢
  clear F' N'
  iterate 3 walk1
  rename Fr _ _ _ _ => F9
  rename News _ _ _ _ => N9
  refine LCt.ListComp_T (F₀ := F9) (by with_unfolding_all rfl) (by decide) (by rfl) (by decide) (by rfl) ?_
  walk1
  refine LCt.CompSrcT.base (by exact hh) F9 N9 hl.isList (by rw [List.size_toArray, hn.length]; exact Nat.le_trans hsz (by decide)) fun g => ?_
  rename _ = Data.cell (some (Value.ref it)) => hcd
  refine restT_inv (fun k i ys news => ∃ dn rest io j oc, cs = dn ++ rest ∧ i = (flat dn).length + j ∧ (rest = [] → j = 0) ∧ (∀ c r, rest = c :: r → j ≤ c.1.length) ∧ k = (flat cs).length - i ∧ news = [(it, io), (s.heap.objs.size + 1, oc)] ∧ oc.data = Data.cell (some (Value.ref it)) ∧ Lit io l (flat dn).length ∧ IntsAre ys (dn.map Chunk.num))
    ?_ ?_ _ _ _ _ ⟨[], cs, _, 0, _, rfl, rfl, fun _ => rfl, fun _ _ _ => Nat.zero_le _, by rw [List.size_toArray, hn.length]; rfl, rfl, hcd, ⟨rfl, rfl⟩, .nil⟩
  · rintro i ys news ⟨dn, rest, io, j, oc, rfl, rfl, h0, h1, hk, rfl, hoc, hio, hys⟩
    intro D h' tk' F' N' o1
    have hrest : rest = [] := by
      cases rest with
      | nil => rfl
      | cons c r =>
        have := h1 c r rfl
        simp [flat] at hk
        omega
    subst hrest
    dsimp only
    exact hQ D h' _ ys F'.keep (N' _ (.head _)).2.2 ⟨_, (N' _ (.head _)).1⟩ (by rw [List.append_nil]; exact hys)
  · rintro k i ys news ⟨dn, rest, io, j, oc, rfl, rfl, h0, h1, hk, rfl, hoc, hio, hys⟩ v I oI C oC D m₂ h3 tk3 E' hP hC' hx' F' N' off
    dsimp only at N' off hP ⊢
    obtain ⟨c, r, rfl⟩ : ∃ c r, rest = c :: r := by
      cases rest with
      | nil => rw [h0 rfl] at hk; simp at hk
      | cons c r => exact ⟨c, r, rfl⟩
    have hj := h1 c r rfl
    obtain ⟨b, t, rfl, hb⟩ := hn.at _ v (by simpa using hP)
    have hall : flat (dn ++ c :: r) = flat dn ++ ((c.1 ++ [c.2]) ++ flat r) := by simp [flat]
    have hb' : (c.1 ++ [c.2])[j]? = some b := by
      rw [hall, List.getElem?_append_right (by omega), Nat.add_sub_cancel_left, List.getElem?_append_left (by simp; omega)] at hb
      exact hb
    obtain ⟨ok1, ok2, ok3⟩ := hok c (by simp)
    iterate 3 walk1
    walk1
    walk1
    by_cases hjl : j < c.1.length
    · have hge : ¬ b < 64 := by
        rw [List.getElem?_append_left hjl] at hb'
        have := ok1 b (List.mem_of_getElem? hb'); omega
      rw [if_neg (by simpa using hge)]
      refine LCg.CompEnd.intro F' N' _ (fun _ h => h) off (.inl hl.isList) ⟨dn, c :: r, io, j + 1, oc, rfl, rfl, nofun, ?_, by omega, rfl, hoc, hio, hys⟩
      rintro c' r' e; cases e; exact hjl
    · have hje : j = c.1.length := by omega
      subst hje
      have hbe : c.2 = b := by simpa using hb'
      subst hbe
      rw [if_pos (by simpa using ok2.2)]
      have hdrop : (flat (dn ++ c :: r)).drop (flat dn).length = c.1 ++ c.2 :: flat r := by
        rw [hall, List.drop_left]; simp
      iterate 6 walk1
      refine Calls.spliced_nil ?_
      rename Fr _ _ _ _ => F'
      rename News _ _ _ _ => N'
      have hdp' : A.depth + 1 < 900 := by omega
      refine ⟨G.k.keeps F'.keep, ?_⟩
      refine varint_spec (hb := s.heap) G F'.keep (by exact hdp') (by exact hh) (N' (it, io) (by simp)).2.2 (N' (it, io) (by simp)).1 hio hl hn hdrop ok1 ok2 ok3 fun h5 tk5 io5 t5 hk5 hio5 hL5 => ?_
      have hit := N' (it, io) (by simp)
      have off5 := LCg.Off3.mem off
      have F5 := fr_hid F' hit.2.2 hit.2.1 hk5
      have N5 : News s.heap s.heap.objs.size h5 [(I, oI), (C, oC), (D, LCg.lst ys), (it, io5), (s.heap.objs.size + 1, oc)] := by
        have far : ∀ q : Addr × Obj, q ∈ [(I, oI), (C, oC), (D, LCg.lst ys), (it, io), (s.heap.objs.size + 1, oc)] → q.1 ≠ it → h5.get? q.1 = some q.2 ∧ q.1 ≠ s.heap.objs.size ∧ s.heap.get? q.1 = none := fun q hq hne => ⟨hk5 _ _ ((Heap.hide_ne _ hne).trans (N' q hq).1), (N' q hq).2⟩
        have oit := off5 (it, io) (by simp)
        rintro q hq
        simp only [List.mem_cons, List.not_mem_nil, or_false] at hq
        rcases hq with rfl | rfl | rfl | rfl | rfl
        · exact far (I, oI) (by simp) (Ne.symm oit.1)
        · exact far (C, oC) (by simp) (Ne.symm oit.2.1)
        · exact far (D, LCg.lst ys) (by simp) (Ne.symm oit.2.2)
        · exact ⟨hio5, hit.2⟩
        · exact far (s.heap.objs.size + 1, oc) (by simp) hnew
      refine LCg.CompEnd.intro F5 N5 [(it, io5), (s.heap.objs.size + 1, oc)] (fun _ h => h) off (.inl hl.isList) ⟨dn ++ [c], r, io5, 0, oc, by simp, by rw [flat_snoc]; simp; omega, fun _ => rfl, fun _ _ _ => Nat.zero_le _, by omega, rfl, hoc, ?_, ?_⟩
      · rw [flat_snoc]
        simpa [Nat.add_assoc] using hL5
      · rw [List.map_append]
        exact hys.append (.cons _ _ .nil)

-- W3
def sp : Nat → Int → Int
  | 0, _ => 0
  | f + 1, l => if l = 0 then 0 else (l % 16 + 1) + 64 * sp f (l / 16)
def spread (l : Int) : Int := sp 2 l
theorem sp_succ (n : Nat) (l : Int) (h : l ≠ 0) : sp (n + 1) l = (l % 16 + 1) + 64 * sp n (l / 16) := by rw [sp, if_neg h]
theorem sp_zero (n : Nat) : sp n 0 = 0 := by cases n <;> simp [sp]

theorem done3 {a b c : Str} {m m₀ : Str → Option Value} (h : ∀ z, z ≠ a → z ≠ b → z ≠ c → m z = m₀ z) : m = fun z => if z = a then m a else if z = b then m b else if z = c then m c else m₀ z := by
  funext z
  by_cases e1 : z = a
  · rw [if_pos e1, e1]
  · rw [if_neg e1]
    by_cases e2 : z = b
    · rw [if_pos e2, e2]
    · rw [if_neg e2]
      by_cases e3 : z = c
      · rw [if_pos e3, e3]
      · rw [if_neg e3]; exact h z e1 e2 e3
theorem same3 {a b c : Str} {u v x : Option Value} {m₀ : Str → Option Value} (z : Str) (h1 : z ≠ a) (h2 : z ≠ b) (h3 : z ≠ c) : (if z = a then u else if z = b then v else if z = c then x else m₀ z) = m₀ z := (if_neg h1).trans ((if_neg h2).trans (if_neg h3))

theorem spread_spec {w : World} {A : Around} {E : Value → Shared → Prop} {s : Shared} {p : Program} {loose : List Str} {mg mb : Str → Option Value} {Q : Value → Shared → Prop} (G : Gd w p loose mg mb s.heap) (hdp : A.depth < 900)
  (hh : A.handled = none) {label : Int} {t : Tok} (h0 : 0 ≤ label) (h1 : label < 256)
  (hQ : ∀ h' tk t, Keep s.heap h' → Q (.int (spread label) t) { s with heap := h', toks := tk }) :
  wpAny (model PySem.Challenge.rw_wf0006_01.prog w) A (call (.ref 54) [.int label t]) Q E s := by
  refine enter [("label", .int label t)] G (Nat.lt_trans hdp (by decide)) rfl rfl rfl (locs rfl) (fun h₁ F' => ?_)
  have X' := G.k
  have T' := G.t
  have N' : News s.heap s.heap.objs.size h₁ [] := News.nil
  (try dsimp only)
  iterate 13 walk1
  rename Fr _ _ _ _ => F9
  rename News _ _ _ _ => N9
  refine While_inv (fun n m news => news = [] ∧ ∃ val wt left tv tw tl, (n = 2 ∧ wt = 1 ∧ left < 256 ∨ n = 1 ∧ wt = 64 ∧ left < 16 ∨ n = 0 ∧ wt = 4096 ∧ left < 1) ∧ 0 ≤ left ∧ 0 ≤ val ∧ val + wt * sp n left = spread label ∧ m "value" = some (.int val tv) ∧ m "weight" = some (.int wt tw) ∧ m "left" = some (.int left tl) ∧
      (∀ z : Str, z ≠ "left" → z ≠ "weight" → z ≠ "value" → m z = List.lookup z ([("label", .int label t)] : List (Str × Value)).reverse))
    F9 N9 (n₀ := 2) ⟨rfl, 0, 1, label, _, _, _, .inl ⟨rfl, rfl, h1⟩, h0, by decide, by simp [spread], rfl, rfl, rfl, same3⟩ ?_
  rintro n m₁ news₁ h4 tk4 F' N' ⟨rfl, val, wt, left, tv, tw, tl, hc, hl0, hv0, hsum, hmv, hmw, hml, hm⟩
  rw [done3 hm, hmv, hmw, hml] at F'
  iterate 4 walk1
  · rename left ≠ 0 => hne
    iterate 28 walk1
    rename Fr _ _ _ _ => F9
    rename News _ _ _ _ => N9
    have em : Int.fmod left 16 = left % 16 := Int.fmod_eq_emod_of_nonneg left (by decide)
    have ed : Int.fdiv left 16 = left / 16 := Int.fdiv_eq_ediv_of_nonneg left (by decide)
    rw [em, ed] at F9
    rcases hc with ⟨rfl, rfl, hl⟩ | ⟨rfl, rfl, hl⟩ | ⟨rfl, rfl, hl⟩
    · refine WhileStep.intro F9 N9 (n' := 1) (by decide) ⟨rfl, _, _, _, _, _, _, .inr (.inl ⟨rfl, rfl, by omega⟩), by omega, by omega, ?_, rfl, rfl, rfl, ?_⟩
      · rw [← hsum, show sp 2 left = _ from sp_succ 1 left hne]; generalize sp 1 (left / 16) = y; omega
      · intro z h1 h2 h3; simp only [if_neg h1, if_neg h2, if_neg h3]
    · refine WhileStep.intro F9 N9 (n' := 0) (by decide) ⟨rfl, _, _, _, _, _, _, .inr (.inr ⟨rfl, rfl, by omega⟩), by omega, by omega, ?_, rfl, rfl, rfl, ?_⟩
      · rw [← hsum, show sp 1 left = _ from sp_succ 0 left hne]; generalize sp 0 (left / 16) = y; omega
      · intro z h1 h2 h3; simp only [if_neg h1, if_neg h2, if_neg h3]
    · omega
  · rename left = 0 => hz
    iterate 3 walk1
    rename Fr _ _ _ _ => F9
    dsimp only
    have e : val = spread label := by rw [← hsum, hz, sp_zero, Int.mul_zero, Int.add_zero]
    rw [e]
    exact hQ _ _ _ F9.keep

-- W2
def apOf (l : Int) : List UInt8 := if l = 0 then [] else if l < 16 then [UInt8.ofNat (65 + l.toNat)] else [UInt8.ofNat (65 + l.toNat / 16), UInt8.ofNat (65 + l.toNat % 16)]

theorem names3 {a b c : Str} {u v x : Option Value} {m : Str → Option Value} (h1 : m a = u) (h2 : m b = v) (h3 : m c = x) : m = fun z => if z = a then u else if z = b then v else if z = c then x else m z := by
  funext z
  by_cases e1 : z = a
  · rw [if_pos e1, e1, h1]
  · rw [if_neg e1]
    by_cases e2 : z = b
    · rw [if_pos e2, e2, h2]
    · rw [if_neg e2]
      by_cases e3 : z = c
      · rw [if_pos e3, e3, h3]
      · rw [if_neg e3]

theorem picked16 {k : Int} (h0 : 0 ≤ k) (h1 : k < 16) : KBy.picked #[65, 66, 67, 68, 69, 70, 71, 72, 73, 74, 75, 76, 77, 78, 79, 80] (some k) (some (k + 1)) = [UInt8.ofNat (65 + k.toNat)].toArray := by
  have : ∀ n : Fin 16, KBy.picked #[65, 66, 67, 68, 69, 70, 71, 72, 73, 74, 75, 76, 77, 78, 79, 80] (some (n.val : Int)) (some ((n.val : Int) + 1)) = [UInt8.ofNat (65 + n.val)].toArray := by decide +kernel
  have q := this ⟨k.toNat, by omega⟩
  rwa [show ((⟨k.toNat, by omega⟩ : Fin 16).val : Int) = k from Int.toNat_of_nonneg h0] at q

theorem ap_spec {w : World} {A : Around} {E : Value → Shared → Prop} {s : Shared} {p : Program} {loose : List Str} {mg mb : Str → Option Value} {Q : Value → Shared → Prop} (G : Gd w p loose mg mb s.heap) (hdp : A.depth < 900)
  (hh : A.handled = none) {label : Int} {t : Tok} (h0 : 0 ≤ label) (h1 : label < 256)
  (hQ : ∀ h' tk t, Keep s.heap h' → Q (.bytes (apOf label).toArray t) { s with heap := h', toks := tk }) :
  wpAny (model PySem.Challenge.rw_wf0006_01.prog w) A (call (.ref 42) [.int (-label) t]) Q E s := by
  refine enter [("num", .int (-label) t)] G (Nat.lt_trans hdp (by decide)) rfl rfl rfl (locs rfl) (fun h₁ F' => ?_)
  have X' := G.k
  have T' := G.t
  have N' : News s.heap s.heap.objs.size h₁ [] := News.nil
  (try dsimp only)
  iterate 22 walk1
  rw [show (if -label < 0 then - -label else -label) = label by split <;> omega]
  iterate 4 walk1
  rename Fr _ _ _ _ => F9
  rename News _ _ _ _ => N9
  refine While_inv (fun n m news => news = [] ∧ ∃ left vb tv tw tl, (n = 2 ∧ left = label ∧ vb = [] ∨ n = 1 ∧ left = label / 16 ∧ label ≠ 0 ∧ vb = [UInt8.ofNat (65 + label.toNat % 16)] ∨ n = 0 ∧ left = 0 ∧ 16 ≤ label ∧ vb = [UInt8.ofNat (65 + label.toNat / 16), UInt8.ofNat (65 + label.toNat % 16)]) ∧
      m "val" = some (.bytes vb.toArray tv) ∧ m "num" = some (.int left tl) ∧ m "AP" = some (.bytes #[65, 66, 67, 68, 69, 70, 71, 72, 73, 74, 75, 76, 77, 78, 79, 80] tw))
    F9 N9 (n₀ := 2) ⟨rfl, label, [], _, _, _, .inl ⟨rfl, rfl, rfl⟩, rfl, rfl, rfl⟩ ?_
  rintro n m₁ news₁ h4 tk4 F' N' ⟨rfl, left, vb, tv, tw, tl, hc, hmv, hml, hma⟩
  have hl0 : 0 ≤ left := by omega
  have hl1 : left < 256 := by omega
  have hvb : vb.length ≤ 2 := by rcases hc with ⟨_, _, rfl⟩ | ⟨_, _, _, rfl⟩ | ⟨_, _, _, rfl⟩ <;> simp
  rw [names3 hmv hml hma] at F'
  iterate 4 walk1
  · rename left ≠ 0 => hne
    iterate 11 walk1
    clear F9 N9
    rename Fr _ _ _ _ => F9
    rename News _ _ _ _ => N9
    refine unpackN_ F9 N9 (News.isTup N9 (.head _)) (by exact hh) rfl rfl fun h' F' N' => ?_
    clear F9 N9
    iterate 22 walk1
    rename Fr _ _ _ _ => F9
    rename News _ _ _ _ => N9
    have em : Int.fmod left 16 = left % 16 := Int.fmod_eq_emod_of_nonneg left (by decide)
    have ed : Int.fdiv left 16 = left / 16 := Int.fdiv_eq_ediv_of_nonneg left (by decide)

    refine KBc.slice_K (s := ⟨_, _, _, _, _⟩) (ks := [65, 66, 67, 68, 69, 70, 71, 72, 73, 74, 75, 76, 77, 78, 79, 80]) F9 N9 (by decide +kernel) (by constructor) (by constructor) (by decide) fun h5 t5 k5 F5 N5 _ => ?_
    rw [em, show KBy.picked _ _ _ = _ from picked16 (by omega) (by omega)]
    clear F9 N9
    iterate 1 walk1
    refine bytes_add_K (by simp; omega) (by rfl) fun t6 k6 => ?_
    iterate 2 walk1
    rename Fr _ _ _ _ => F9
    rename News _ _ _ _ => N9
    rw [ed] at F9
    rcases hc with ⟨rfl, rfl, rfl⟩ | ⟨rfl, rfl, hl, rfl⟩ | ⟨rfl, rfl, hl, rfl⟩
    · refine WhileStep.intro F9 News.nil (n' := 1) (by decide) ⟨rfl, _, _, _, _, _, .inr (.inl ⟨rfl, rfl, hne, ?_⟩), rfl, rfl, rfl⟩
      rw [show (left % 16).toNat = left.toNat % 16 from by omega]; rfl
    · refine WhileStep.intro F9 News.nil (n' := 0) (by decide) ⟨rfl, _, _, _, _, _, .inr (.inr ⟨rfl, by omega, by omega, ?_⟩), rfl, rfl, rfl⟩
      rw [show (label / 16 % 16).toNat = label.toNat / 16 from by omega]; rfl
    · omega
  · rename left = 0 => hz
    iterate 3 walk1
    rename Fr _ _ _ _ => F9
    dsimp only
    have e : vb = apOf label := by
      unfold apOf
      rcases hc with ⟨_, rfl, rfl⟩ | ⟨_, rfl, hn, rfl⟩ | ⟨_, rfl, hn, rfl⟩
      · rw [if_pos hz]
      · rw [if_neg hn, if_pos (by omega), show label.toNat % 16 = label.toNat from by omega]
      · rw [if_neg (by omega), if_neg (by omega)]
    rw [e]
    exact hQ _ _ _ F9.keep

-- R
section
variable {prog : Program} {w : World} {A : Around} {E : Value → Shared → Prop} {s : Shared} {env : Env} {h₀ : Heap} {L : Addr} {m : Str → Option Value}

theorem step_walks {I : Addr} (hh : A.handled = none) (a c : Int) (n : Nat) : Walks prog w A I [I] [I] n (fun i v => ∃ t, v = .int (a + (i : Int) * c) t) (fun i h => IsRangeIter h I (a + (i : Nat) * c) ((n : Int) - (i : Nat)) c) :=
  let W : Walks prog w A I [I] [I] n (fun i v => i < n ∧ ∃ t, v = .int (a + i * c) t) (fun i h => IsRangeIter h I (a + (i : Nat) * c) ((n : Int) - (i : Nat)) c) := (Walks.range hh I a c n).bound
  { sub := W.sub, frame := W.frame, done := W.done, self := W.self,
    item := fun i s Q E hi st hQ => W.item i s Q E hi st fun v h' tk hP => hQ v h' tk (by obtain ⟨_, t, rfl⟩ := hP; exact ⟨t, rfl⟩) }
theorem step_st {I : Addr} {a c : Int} {n : Nat} : ∀ i (h h' : Heap) (o : Obj) (nw : List (Addr × Obj)), IsRangeIter h I (a + (i : Nat) * c) ((n : Int) - (i : Nat)) c → h.get? I = some o → h'.get? I = some o → (∀ b o, h₀.get? b = some o → h'.get? b = some o) → News h₀ L h' nw → True → IsRangeIter h' I (a + (i : Nat) * c) ((n : Int) - (i : Nat)) c :=
  fun i h h' o nw st e e' _ _ _ => by
    have st' : h.get? I = some _ := st
    rw [e] at st'
    cases st'
    exact e'

/-- a comprehension over range(a, b, c) -/
theorem ListComp_step {elt iter : Expr} {x : Str} {px : Pos} {scope : Scope} {cl : List (Str × Addr)} {pos : Pos} {Q : Value → Shared → Prop} (_F₀ : Fr h₀ L s.heap m)
    (hclos : closureFor scope env = pure cl) (hcell : ∀ y ∈ scope.names, y.2 ≠ .cell) (hkind : scope.kind = .function)
    (hnames : ∀ y ∈ scope.names, y.2 = .local → scope.names.lookup y.1 = some .local) (hx : scope.names.lookup x = some .local)
    (h : wpAny (model prog w) A (eval iter env) (fun xv s₁ => ∃ r a b c t u v n news, xv = .ref r ∧ A.handled = none ∧ Fr h₀ L s₁.heap m ∧ News h₀ L s₁.heap news ∧ IsRange s₁.heap r a b c t u v ∧ Builtin.Range.small a b c = true ∧ Builtin.Range.rangeSize a b c = ((n : Nat) : Int) ∧ n ≤ sizeLine ∧
      ∀ s₂ : Shared, (∃ h, s₂ = { s₁ with heap := h }) → LCg.CompRest prog w A h₀ L m env elt x scope cl s₂ (fun _ => True) (fun i v => ∃ t, v = .int (a + (i : Int) * c) t) (LCg.FinE h₀ L m s₂ Q) n 0 [] news) E s)
    (hs : ∀ x, foldedSetIterable iter env x = pure x := by intro _; rfl) :
    wpAny (model prog w) A (eval (.ListComp elt [⟨.Name x px, iter, [], 0⟩] scope pos) env) Q E s := by
  rw [eval_ListComp]
  refine wpAny_comprehension_free (use := none) rfl hs hclos hkind hnames (wpAny_mono h (fun xv s₁ h₁ => ?_) fun _ _ e => e)
  obtain ⟨r, a, b, c, t, u, v, n, news, rfl, hh, F, N, hr, hsm, hn, hsz, R⟩ := h₁
  refine wpAny_pyIter_range hr hsm ?_
  refine LCg.block_U (step_walks hh a c n) hsz (fun i h st => ⟨_, st⟩) step_st hcell hkind hx (by show IsRangeIter _ _ _ _ _; rw [hn]; simpa using Heap.get?_push_size _ rfl) (fun b hb => ?_)
    (F.keeps fun _ _ e => Heap.get?_push_of_some _ e) (N.grown fun _ _ e => Heap.get?_push_of_some _ e) (Nat.ne_of_lt F.ns.lt) (next_is_new F) (fun p hp => Nat.ne_of_lt (Heap.lt_size (N p hp).1)) trivial (R _ ⟨_, rfl⟩) ?_
  · rw [List.mem_singleton.mp hb]
    show s₁.heap.objs.size < (s₁.heap.push _).objs.size
    rw [Heap.size_push]; exact Nat.lt_succ_self _
  · intro D C h tk m' ys news' F' N' o1 hn hC₀ hD₀ hCL hDL hCD offC fin
    refine ⟨m', hn, fun h'' hs'' => fin D h'' tk (F'.change hs'' hCL hC₀) (fun p hp => ?_) o1⟩
    refine ⟨hs''.extBut _ _ ?_ (N' p hp).1, (N' p hp).2⟩
    rcases List.mem_cons.mp hp with rfl | hp
    · exact Ne.symm hCD
    · exact offC p hp

abbrev Inv := Nat → Array GenState → (Str → Option Value) → List (Addr × Obj) → Prop
def RStep (h₀ : Heap) (L : Addr) (J : Inv) (i : Nat) (I : Addr) (oI : Obj) (s : Shared) (Q : Flow → Shared → Prop) (f : Flow) (s₃ : Shared) : Prop :=
  match f with
  | .ret v => Q (.ret v) s₃
  | .brk => Q .next s₃
  | _ => ∃ h' tk g m' news', s₃ = { s with heap := h', gens := g, toks := tk } ∧ Fr h₀ L h' m' ∧ News h₀ L h' ((I, oI) :: news') ∧ (∀ q ∈ news', q.1 ≠ I) ∧ J (i + 1) g m' news'
theorem RStep.intro {J : Inv} {i : Nat} {I : Addr} {oI : Obj} {s : Shared} {Q : Flow → Shared → Prop} {h' : Heap} {tk : Nat} {g : Array GenState} {m' : Str → Option Value} {news' : List (Addr × Obj)}
    (F : Fr h₀ L h' m') (N : News h₀ L h' ((I, oI) :: news')) (off : ∀ q ∈ news', q.1 ≠ I) (j : J (i + 1) g m' news') : RStep h₀ L J i I oI s Q .next { s with heap := h', gens := g, toks := tk } := ⟨h', tk, g, m', news', rfl, F, N, off, j⟩

/-- a for loop over range(a, b, c), any target -/
theorem For_range {target : Expr} {body : List Stmt} {Q : Flow → Shared → Prop} {r : Addr} {a b c : Int} {t u v : Tok} {n : Nat} {news : List (Addr × Obj)} (J : Inv) (hh : A.handled = none)
    (F : Fr h₀ L s.heap m) (N : News h₀ L s.heap news) (hr : IsRange s.heap r a b c t u v) (hsm : Builtin.Range.small a b c = true) (hn : Builtin.Range.rangeSize a b c = ((n : Nat) : Int)) (h0 : J 0 s.gens m news)
    (step : ∀ i g m₁ news₁ I oI h tk t', i < n → J i g m₁ news₁ → Fr h₀ L h m₁ → News h₀ L h ((I, oI) :: news₁) → (∀ q ∈ news₁, q.1 ≠ I) →
      wpAny (model prog w) A (assign target env (.int (a + (i : Int) * c) t')) (fun _ s₂ => wpAny (model prog w) A (execs body env) (RStep h₀ L J i I oI s Q) E s₂) E { s with heap := h, gens := g, toks := tk })
    (done : ∀ h' tk g m' news', Fr h₀ L h' m' → News h₀ L h' news' → J n g m' news' → Q .next { s with heap := h', gens := g, toks := tk })
    (ht : ∀ it v, letOwnedTupleGo target it v = pure () := by intro _ _; rfl) (hE : PassesOwn (model prog w) A env E := by passes_own) :
    wpAny (model prog w) A (pyIter (.ref r)) (fun it s₂ => codeAny (model prog w) A (.forLoop target it body [] env) (fun r s' => match r with | .ok f => Q f s' | .error e => cameBackBy (model prog w) A env E e s') s₂) E s := by
  refine wpAny_pyIter_range hr hsm ?_
  have hI₀ := next_is_new F
  have hIL : L ≠ s.heap.objs.size := Nat.ne_of_lt F.ns.lt
  have W := step_walks (prog := prog) (w := w) (I := s.heap.objs.size) hh a c n
  refine codeAny_forLoop (fun k s' => ∃ i h' tk g m' news', k = n - i ∧ i ≤ n ∧ s' = { s with heap := h', gens := g, toks := tk } ∧ IsRangeIter h' s.heap.objs.size (a + (i : Nat) * c) ((n : Int) - (i : Nat)) c ∧ Fr h₀ L h' m' ∧ News h₀ L h' news' ∧ (∀ q ∈ news', q.1 ≠ s.heap.objs.size) ∧ J i g m' news') ?_ n
    ⟨0, _, _, _, m, news, by omega, Nat.zero_le _, rfl, ?_, F.keeps fun _ _ e => Heap.get?_push_of_some _ e, N.grown fun _ _ e => Heap.get?_push_of_some _ e, fun p hp => Nat.ne_of_lt (Heap.lt_size (N p hp).1), h0⟩ (ht _)
  · rintro k s' ⟨i, h', tk, g, m', news', rfl, hi, rfl, hst, F', N', off, j⟩
    rcases Nat.lt_or_ge i n with hlt | hge
    · refine W.item i _ _ _ hlt hst fun v h₂ tk₂ hP hst₂ hk₂ => ?_
      obtain ⟨t', rfl⟩ := hP
      have F₂ := LCg.fr_but F' hk₂ hIL hI₀
      have N₂ := LCg.news_but N' hk₂ off
      refine wpAny_mono (step i g m' news' s.heap.objs.size { cls := .type "range_iterator", dict := none, data := .fields #[rawInt (a + ((i + 1 : Nat) : Int) * c), rawInt ((n : Int) - ((i + 1 : Nat) : Int)), rawInt c], slots := #[] } h₂ tk₂ t' hlt j F₂ (fun q hq => ?_) off) (fun _ s₂ h₂ => wpAny_mono h₂ (fun f s₃ h₃ => ?_) hE) hE
      · rcases List.mem_cons.mp hq with rfl | hq
        · exact ⟨hst₂, Ne.symm hIL, hI₀⟩
        · exact N₂ q hq
      · have more : RStep h₀ L J i s.heap.objs.size { cls := .type "range_iterator", dict := none, data := .fields #[rawInt (a + ((i + 1 : Nat) : Int) * c), rawInt ((n : Int) - ((i + 1 : Nat) : Int)), rawInt c], slots := #[] } s Q .next s₃ → ∃ m, m < n - i ∧ ∃ i h' tk g m' news', m = n - i ∧ i ≤ n ∧ s₃ = { s with heap := h', gens := g, toks := tk } ∧ IsRangeIter h' s.heap.objs.size (a + (i : Nat) * c) ((n : Int) - (i : Nat)) c ∧ Fr h₀ L h' m' ∧ News h₀ L h' news' ∧ (∀ q ∈ news', q.1 ≠ s.heap.objs.size) ∧ J i g m' news' := by
          rintro ⟨h₄, tk₄, g₄, m₄, news₄, e, F₄, N₄, off₄, j₄⟩
          exact ⟨n - (i + 1), by omega, i + 1, h₄, tk₄, g₄, m₄, news₄, rfl, hlt, e, (N₄ _ (.head _)).1, F₄, fun q hq => N₄ q (.tail _ hq), off₄, j₄⟩
        cases f with
        | next => exact more h₃
        | cont => exact more h₃
        | brk => exact h₃
        | ret v => exact h₃
    · obtain rfl : i = n := by omega
      refine W.done _ _ _ hst fun h₂ tk₂ hk₂ => ?_
      exact wpAny_execs_nil (done h₂ tk₂ g m' news' (LCg.fr_but F' hk₂ hIL hI₀) (LCg.news_but N' hk₂ off) j)
  · show IsRangeIter _ _ _ _ _
    rw [hn]; simpa using Heap.get?_push_size _ rfl
end

-- S7
def onesAt (fs : List Int) (turn : Int) (k : Nat) (n : Nat) : List Int := ((List.range n).filter fun (far : Nat) => decide (Builtin.bitAnd (turn - 1) (far : Int) = 0)).map fun (far : Nat) => fs.getD (k - far) 0
def struckAt (fs : List Int) (turn : Int) (k : Nat) : Int := (onesAt fs turn k (k + 1)).sum % 2
def struckOf (fs : List Int) (turn : Int) : List Int := (List.range fs.length).map (struckAt fs turn)

theorem names1 {a : Str} {u : Option Value} {m : Str → Option Value} (h1 : m a = u) : m = fun z => if z = a then u else m z := by
  funext z
  by_cases e1 : z = a
  · rw [if_pos e1, e1, h1]
  · rw [if_neg e1]

theorem onesAt_pos {fs : List Int} {turn : Int} {k j : Nat} (h : Builtin.bitAnd (turn - 1) (j : Int) = 0) : onesAt fs turn k (j + 1) = onesAt fs turn k j ++ [fs.getD (k - j) 0] := by
  simp [onesAt, List.range_succ, List.filter_append, h]
theorem onesAt_neg {fs : List Int} {turn : Int} {k j : Nat} (h : Builtin.bitAnd (turn - 1) (j : Int) ≠ 0) : onesAt fs turn k (j + 1) = onesAt fs turn k j := by
  simp [onesAt, List.range_succ, List.filter_append, h]
theorem PN.sub {h₀ h : Heap} {L : Addr} {all l : List (Addr × Obj)} (N : News h₀ L h all) (x : ∀ q ∈ l, q ∈ all) : News h₀ L h l := fun q hq => N q (x q hq)

theorem struck_spec {w : World} {A : Around} {E : Value → Shared → Prop} {s : Shared} {p : Program} {loose : List Str} {mg mb : Str → Option Value} {Q : Value → Shared → Prop} (G : Gd w p loose mg mb s.heap) (hdp : A.depth < 800)
  (hh : A.handled = none) {l : Addr} {vs : List Value} {fs : List Int} {turn : Int} {tt : Tok} (hl : LsAt s.heap l vs) (hf : IntsAre vs fs) (hsz : fs.length ≤ 7) (ht0 : 1 ≤ turn) (ht1 : turn ≤ 5)
  (hQ : ∀ D h' tk us, Keep s.heap h' → s.heap.get? D = none → LsAt h' D us → IntsAre us (struckOf fs turn) → Q (.ref D) { s with heap := h', toks := tk }) :
  wpAny (model PySem.Challenge.rw_wf0006_01.prog w) A (call (.ref 71) [.ref l, .int turn tt]) Q E s := by
  refine enterC [("start", .ref l), ("turn", .int turn tt)] G (Nat.lt_trans hdp (by decide)) rfl rfl rfl rfl (by decide +kernel) (fun h₁ tk cells F' N' Y' => ?_)
  have X' := G.k
  have T' := G.t
  have hL := hl.isList
  k_cells Y'
  rename_i o1 o2 o3 d1 d2 d3
  replace d1 : o1.data = .cell none := d1
  replace d2 : o2.data = .cell (some (.int turn tt)) := d2
  replace d3 : o3.data = .cell (some (.ref l)) := d3
  (try dsimp only)
  iterate 6 walk1
  rename_i ls _ l1 _ _ _
  iterate 2 walk1
  refine wpAny_For ?_
  iterate 13 walk1
  rename_i hr F9 N9 _
  refine For_range (n := fs.length) (fun i g m news => g = s.gens ∧ m "struck" = some (.ref ls) ∧ ∃ us n ok v₀, news = [(ls, W.listOf us.toArray n), (s.heap.objs.size + 1 + 1 + 1, ok), (s.heap.objs.size + 1 + 1, o2), (s.heap.objs.size + 1, o3)] ∧ ok.data = .cell v₀ ∧ IntsAre us ((List.range i).map (struckAt fs turn)))
    (by exact hh) F9 N9 hr ?_ ?_ ⟨rfl, rfl, [], 0, o1, none, rfl, d1, .nil⟩ ?_ ?_
  · exact small_one (by decide) (by decide) (by omega) (by omega)
  · rw [rangeSize_nat]; omega
  · rintro i g m₁ news₁ I oI h tk t' hi ⟨rfl, hm, us, n, ok, v₀, rfl, hok, hI⟩ F' N' off
    simp only [Int.zero_add, Int.mul_one]
    rw [names1 hm] at F'
    have e1 : @Ne Nat ls I := off (ls, W.listOf us.toArray n) (by simp)
    have e2 : @Ne Nat (s.heap.objs.size + 1 + 1 + 1) I := off (s.heap.objs.size + 1 + 1 + 1, ok) (by simp)
    have e3 : @Ne Nat (s.heap.objs.size + 1 + 1) I := off (s.heap.objs.size + 1 + 1, o2) (by simp)
    have e4 : @Ne Nat (s.heap.objs.size + 1) I := off (s.heap.objs.size + 1, o3) (by simp)
    clear F9 N9
    iterate 2 walk1
    rename_i _ ok2 _ _ hok2
    iterate 2 walk1
    rename Fr _ _ _ _ => F9
    rename News _ _ _ _ => N9
    refine LCt.Assign_ListComp_T (F₀ := F9) (by rfl) (by with_unfolding_all rfl) (by with_unfolding_all rfl) (by decide) (by rfl) (by decide) (by rfl) (by rfl) (by rfl) ?_
    iterate 10 walk1
    rename_i hr2 F9' N9' _
    refine LCt.CompSrcT.range (n := i + 1) (by exact hh) F9' N9' hr2 ?_ ?_ ?_ fun g => ?_
    · exact small_one (by decide) (by decide) (by omega) (by omega)
    · rw [rangeSize_nat]; omega
    · rw [sizeLine_eq]; omega
    refine restT_inv (fun k j ys news => k = (i + 1) - j ∧ j ≤ i + 1 ∧ news = [(I, oI), (ls, W.listOf us.toArray n), (s.heap.objs.size + 1 + 1 + 1, ok2), (s.heap.objs.size + 1 + 1, o2), (s.heap.objs.size + 1, o3)] ∧ IntsAre ys (onesAt fs turn i j)) ?_ ?_ _ _ _ _ ⟨rfl, Nat.zero_le _, rfl, .nil⟩
    · rintro j ys news ⟨hk, hj, rfl, hys⟩ D h5 tk5 F' N' o1
      obtain rfl : j = i + 1 := by omega
      dsimp only

      have hyl : ys.length ≤ 7 := by
        rw [hys.length, onesAt, List.length_map]
        exact Nat.le_trans (List.length_filter_le _ _) (by rw [List.length_range]; omega)
      iterate 14 walk1
      rename Fr _ _ _ _ => F9
      rename News _ _ _ _ => N9
      refine sumK (by exact hh) F9 N9 (News.isList N9 (.head _)) hys fun h6 tk6 t6 F6 N6 => ?_
      iterate 3 walk1
      rename Fr _ _ _ _ => F9
      rename News _ _ _ _ => N9
      have e5 : @Ne Nat ls D := o1.2.1
      have hul : us.length = i := by rw [hI.length]; simp
      refine app_own F9 (l := ls) (us := us) (n := n) (own := [(D, LCg.lst ys), (I, oI), (s.heap.objs.size + 1 + 1 + 1, ok2), (s.heap.objs.size + 1 + 1, o2), (s.heap.objs.size + 1, o3)]) (PN.sub N9 (by simp)) ?_ (by omega) fun h7 n7 F7 N7 => ?_
      · have l2 : @LT.lt Nat _ (s.heap.objs.size + 1 + 1 + 1) ls := l1.1
        simp only [List.forall_mem_cons]
        exact ⟨fun e => e5 e.symm, fun e => e1 e.symm, Nat.ne_of_lt l2, Nat.ne_of_lt (by omega), Nat.ne_of_lt (by omega), fun _ h => nomatch h⟩
      refine wpAny_execs_nil (RStep.intro (g := s.gens) F7 (news' := [(ls, W.listOf (us ++ [Value.int ((onesAt fs turn i (i + 1)).sum.fmod 2) (tk6 + 1)]).toArray n7), (s.heap.objs.size + 1 + 1 + 1, ok2), (s.heap.objs.size + 1 + 1, o2), (s.heap.objs.size + 1, o3)]) (PN.sub N7 (by simp)) ?_ ⟨rfl, rfl, _, n7, _, _, rfl, hok2, ?_⟩)
      · simp only [List.forall_mem_cons]
        exact ⟨e1, e2, e3, e4, fun _ h => nomatch h⟩
      · rw [List.range_succ, List.map_append]
        rw [fmod2]
        exact hI.append (.cons _ _ .nil)
    · rintro k j ys news ⟨hk, hj, rfl, hys⟩ v I2 oI2 C oC D m₂ h3 tk3 E' ⟨t3, rfl⟩ hC' hx' F' N' off2
      dsimp only at N' off2 hx' ⊢
      iterate 12 walk1
      · rename Builtin.bitAnd _ _ = 0 => hz
        iterate 7 walk1
        refine LCg.CompEnd.intro F' N' _ (fun _ h => h) off2 trivial ⟨by omega, by omega, rfl, ?_⟩
        rw [onesAt_pos (by simpa using hz)]
        refine hys.append ?_
        rw [show ((i : Int) - (0 + (j : Int))).toNat = i - j from by omega]
        exact .cons _ _ .nil
      · rename Builtin.bitAnd _ _ ≠ 0 => hz
        refine LCg.CompEnd.intro F' N' _ (fun _ h => h) off2 trivial ⟨by omega, by omega, rfl, ?_⟩
        rw [onesAt_neg (by simpa using hz)]
        exact hys
  · rintro h tk g m₁ news₁ F' N' ⟨rfl, hm, us, n, ok, v₀, rfl, hok, hI⟩
    rw [names1 hm] at F'
    iterate 3 walk1
    dsimp only
    exact hQ ls _ _ us F'.keep (N' _ (.head _)).2.2 ⟨_, (N' _ (.head _)).1⟩ hI

-- S1
def TupObj (o : Obj) (f l : Int) : Prop := o.cls = .type "tuple" ∧ ∃ t t' n, o.data = .seq #[.int f t, .int l t'] n
inductive Tups (P : Addr → Obj → Prop) : List Value → List (Int × Int) → Prop where
  | nil : Tups P [] []
  | cons {a : Addr} {o : Obj} {f l : Int} {r : List Value} {rs : List (Int × Int)} : P a o → TupObj o f l → Tups P r rs → Tups P (.ref a :: r) ((f, l) :: rs)
theorem Tups.mono {P P' : Addr → Obj → Prop} (h : ∀ a o, P a o → P' a o) : ∀ {vs : List Value} {ps : List (Int × Int)}, Tups P vs ps → Tups P' vs ps
  | _, _, .nil => .nil
  | _, _, .cons a b c => .cons (h _ _ a) b (Tups.mono h c)
theorem Tups.snoc {P : Addr → Obj → Prop} {a : Addr} {o : Obj} {f l : Int} (x : P a o) (y : TupObj o f l) : ∀ {vs : List Value} {ps : List (Int × Int)}, Tups P vs ps → Tups P (vs ++ [.ref a]) (ps ++ [(f, l)])
  | _, _, .nil => .cons x y .nil
  | _, _, .cons a b c => .cons a b (Tups.snoc x y c)
theorem Tups.length {P : Addr → Obj → Prop} : ∀ {vs : List Value} {ps : List (Int × Int)}, Tups P vs ps → vs.length = ps.length
  | _, _, .nil => rfl
  | _, _, .cons _ _ c => by rw [List.length_cons, List.length_cons, c.length]
abbrev inH (h : Heap) : Addr → Obj → Prop := fun a o => h.get? a = some o
abbrev newH (h h' : Heap) : Addr → Obj → Prop := fun a o => h'.get? a = some o ∧ h.get? a = none
abbrev inL (l : List (Addr × Obj)) : Addr → Obj → Prop := fun a o => (a, o) ∈ l

theorem in_step {a b c : Int} {j : Nat} (hc : 0 < c) (hj : j < (Builtin.Range.rangeSize a b c).toNat) : a + (j : Int) * c < b := by
  unfold Builtin.Range.rangeSize at hj
  rw [if_pos hc] at hj
  split at hj
  · have h : (j : Int) ≤ (b - a - 1) / c := by omega
    have := (Int.le_ediv_iff_mul_le hc).mp h
    omega
  · simp at hj
theorem small_step {a b c : Int} (h1 : 0 ≤ a) (h2 : a < 1000) (h3 : 0 ≤ b) (h4 : b < 1000) (h5 : 0 < c) (h6 : c < 1000) : Builtin.Range.small a b c = true := by
  have e := rangeSize_toNat a b c
  have l := rangeSize_toNat_le a b c
  unfold Builtin.Range.small
  rw [e]
  generalize (Builtin.Range.rangeSize a b c).toNat = n at l
  rw [if_pos h5]
  unfold Builtin.Range.rangeFitsLong
  simp only [Bool.and_eq_true, Bool.or_eq_true, decide_eq_true_eq]
  omega

theorem front4 {h₀ h : Heap} {L : Addr} {a b c d : Addr × Obj} {r : List (Addr × Obj)} (N : News h₀ L h (a :: b :: c :: d :: r)) : News h₀ L h (d :: a :: b :: c :: r) := fun q hq => N q (by
  rcases List.mem_cons.mp hq with rfl | hq
  · exact .tail _ (.tail _ (.tail _ (.head _)))
  · rcases List.mem_cons.mp hq with rfl | hq
    · exact .head _
    · rcases List.mem_cons.mp hq with rfl | hq
      · exact .tail _ (.head _)
      · rcases List.mem_cons.mp hq with rfl | hq
        · exact .tail _ (.tail _ (.head _))
        · exact .tail _ (.tail _ (.tail _ (.tail _ hq))))
theorem back6 {h₀ h : Heap} {L : Addr} {x t d i b c : Addr × Obj} {r : List (Addr × Obj)} (N : News h₀ L h (x :: t :: d :: i :: b :: c :: r)) : News h₀ L h (i :: x :: b :: c :: t :: r) := fun q hq => N q (by
  rcases List.mem_cons.mp hq with rfl | hq
  · exact .tail _ (.tail _ (.tail _ (.head _)))
  · rcases List.mem_cons.mp hq with rfl | hq
    · exact .head _
    · rcases List.mem_cons.mp hq with rfl | hq
      · exact .tail _ (.tail _ (.tail _ (.tail _ (.head _))))
      · rcases List.mem_cons.mp hq with rfl | hq
        · exact .tail _ (.tail _ (.tail _ (.tail _ (.tail _ (.head _)))))
        · rcases List.mem_cons.mp hq with rfl | hq
          · exact .tail _ (.head _)
          · exact .tail _ (.tail _ (.tail _ (.tail _ (.tail _ (.tail _ hq))))))

theorem names_spec {w : World} {A : Around} {E : Value → Shared → Prop} {s : Shared} {p : Program} {loose : List Str} {mg mb : Str → Option Value} {Q : Value → Shared → Prop} (G : Gd w p loose mg mb s.heap) (hdp : A.depth < 800)
  (hh : A.handled = none) {l : Addr} {vs : List Value} {ns : List Int} (hL : s.heap.IsList l vs.toArray) (hn : IntsAre vs ns) (hsz : ns.length ≤ 63)
  (hQ : ∀ D h' tk us ps, Keep s.heap h' → s.heap.get? D = none → LsAt h' D us → Tups (newH s.heap h') us ps → 4 ≤ ps.length → ps.length ≤ 7 →
    (∀ (k : Nat) (f l : Int), ps[k]? = some (f, l) → (f = 0 ∨ f = 1) ∧ ∃ j : Int, 0 ≤ j ∧ j < 32 ∧ l = k + 8 * j) → Q (.ref D) { s with heap := h', toks := tk }) :
  wpAny (model PySem.Challenge.rw_wf0006_01.prog w) A (call (.ref 47) [.ref l]) Q E s := by
  refine enterC [("script", .ref l)] G (Nat.lt_trans hdp (by decide)) rfl rfl rfl rfl (by decide +kernel) (fun h₁ tk cells F' N' Y' => ?_)
  have X' := G.k
  have T' := G.t
  k_cells Y'
  rename_i o3 d3
  replace d3 : o3.data = .cell (some (.ref l)) := d3
  (try dsimp only)
  iterate 39 walk1
  refine min_two_N (by exact hh) (by assumption) (by assumption) fun h2 tk2 F' N' => ?_
  generalize hml : (if (3 : Int) < ((ns.length : Nat) : Int) then (3 : Int) else ((ns.length : Nat) : Int)) = ml
  have hml1 : 0 ≤ ml ∧ ml ≤ 3 := by subst hml; split <;> omega
  generalize (if (3 : Int) < ((ns.length : Nat) : Int) then _ else _ : Tok) = tml
  obtain ⟨mn, rfl⟩ : ∃ mn : Nat, ml = mn := ⟨ml.toNat, by omega⟩
  iterate 9 walk1
  rename_i tk0 bs _ l1 _ _ _ nm _ l2 _ F9 N9
  obtain ⟨bvs, hbvs, hbI⟩ : ∃ bvs : List Value, #[Value.int 57 tk0, Value.int 38 (tk0 + 1), Value.int 1 (tk0 + 1 + 1), Value.int 62 (tk0 + 1 + 1 + 1), Value.int 0 (tk0 + 1 + 1 + 1 + 1), Value.int 45 (tk0 + 1 + 1 + 1 + 1 + 1), Value.int 20 (tk0 + 1 + 1 + 1 + 1 + 1 + 1)] = bvs.toArray ∧ IntsAre bvs [57, 38, 1, 62, 0, 45, 20] :=
    ⟨[_, _, _, _, _, _, _], rfl, .cons _ _ (.cons _ _ (.cons _ _ (.cons _ _ (.cons _ _ (.cons _ _ (.cons _ _ .nil))))))⟩
  rw [hbvs] at N9
  clear hbvs
  iterate 2 walk1
  refine wpAny_For ?_
  iterate 7 walk1
  rename_i hr F9 N9 _
  refine For_range (n := 4 + mn) (fun i g m news => g = s.gens ∧ m "names" = some (.ref nm) ∧ (∃ t, m "many" = some (.int (4 + (mn : Int)) t)) ∧ m "base" = some (.ref bs) ∧
      ∃ us nn tl ps, news = (nm, W.listOf us.toArray nn) :: (bs, W.listOf bvs.toArray 0) :: (s.heap.objs.size + 1, o3) :: tl ∧ (∀ q ∈ tl, q.1 ≠ nm) ∧ Tups (inL tl) us ps ∧ ps.length = i ∧
        ∀ (k : Nat) (f l : Int), ps[k]? = some (f, l) → (f = 0 ∨ f = 1) ∧ ∃ j : Int, 0 ≤ j ∧ j < 32 ∧ l = k + 8 * j)
    (by exact hh) F9 N9 hr ?_ ?_ ⟨rfl, rfl, ⟨_, rfl⟩, rfl, [], 0, [], [], rfl, (fun _ h => nomatch h), .nil, rfl, fun k f l h => by simp at h⟩ ?_ ?_
  · exact small_one (by decide) (by decide) (by omega) (by omega)
  · rw [rangeSize_nat]; omega
  · rintro i g m₁ news₁ I oI h tk t' hi ⟨rfl, hm, ⟨tmn, hmm⟩, hmb, us, nn, tl, ps, rfl, hfar, hT, hpl, hps⟩ F' N' off
    simp only [Int.zero_add, Int.mul_one]
    rw [names3 hm hmm hmb] at F'
    have e1 : @Ne Nat nm I := off (nm, W.listOf us.toArray nn) (by simp)
    have e2 : @Ne Nat bs I := off (bs, W.listOf bvs.toArray 0) (by simp)
    have e3 : @Ne Nat (s.heap.objs.size + 1) I := off (s.heap.objs.size + 1, o3) (by simp)
    iterate 15 walk1
    rename Fr _ _ _ _ => F9
    refine ListComp_step F9 (by with_unfolding_all rfl) (by decide) (by rfl) (by decide) (by rfl) ?_
    iterate 20 walk1
    rename Fr _ _ _ _ => F9
    rename News _ _ _ _ => N9
    refine min_two_N (by exact hh) F9 N9 fun h2 tk2 F' N' => ?_
    generalize hcut : (if (60 : Int) < ((ns.length : Nat) : Int) then (60 : Int) else ((ns.length : Nat) : Int)) = ct
    have hcut1 : 0 ≤ ct ∧ ct ≤ 60 ∧ ct ≤ ns.length := by subst hcut; split <;> omega
    generalize (if (60 : Int) < ((ns.length : Nat) : Int) then _ else _ : Tok) = tct
    iterate 4 walk1
    rename_i hr2 F9 N9 _
    have hi3 : (i : Int) < 7 := by omega
    have hsm : Builtin.Range.small (i : Int) ct (4 + (mn : Int)) = true := small_step (by omega) (by omega) (by omega) (by omega) (by omega) (by omega)
    refine ⟨_, _, _, _, _, _, _, _, _, rfl, by exact hh, F9, N9, hr2, hsm, rangeSize_toNat _ _ _, ?_, ?_⟩
    · rw [sizeLine_eq]
      have := rangeSize_toNat_le (i : Int) ct (4 + (mn : Int))
      omega
    rintro s₂ ⟨g2, rfl⟩
    refine rest_inv (fun k j ys news => k = (Builtin.Range.rangeSize (i : Int) ct (4 + (mn : Int))).toNat - j ∧ news = (I, oI) :: (nm, W.listOf us.toArray nn) :: (bs, W.listOf bvs.toArray 0) :: (s.heap.objs.size + 1, o3) :: tl ∧ ∃ zs, IntsAre ys zs) ?_ ?_ _ _ _ _ ⟨rfl, rfl, [], .nil⟩
    · rintro j ys news ⟨hk, rfl, zs, hz⟩ D h5 tk5 F' N' o1
      dsimp only
      iterate 1 walk1
      rename Fr _ _ _ _ => F'
      rename News _ _ _ _ => N'
      refine sumK (by exact hh) F' N' (News.isList N' (.head _)) hz fun h6 tk6 t6 F6 N6 => ?_
      generalize zs.sum = sm
      iterate 35 walk1
      rename_i D' h7 F7 N7 l7
      have e5 : @Ne Nat nm D := o1.2.1
      have hul : us.length = i := by rw [hT.length, hpl]
      have e6 : @LT.lt Nat _ nm D' := l7.2.2.1
      have e7 : @LT.lt Nat _ I D' := l7.2.1
      refine app_own F7 (front4 N7) ?_ (by omega) fun h8 n8 F8 N8 => ?_
      · simp only [List.forall_mem_cons]
        exact ⟨fun e => Nat.lt_irrefl _ (Nat.lt_of_lt_of_eq e6 e), fun e => e5 e.symm, fun e => e1 e.symm, Nat.ne_of_lt l2.1, Nat.ne_of_lt l2.2, hfar⟩
      refine wpAny_execs_nil (RStep.intro (g := s.gens) F8 (back6 N8) ?_ ⟨rfl, rfl, ⟨_, rfl⟩, rfl, _, n8, _, _, rfl, ?_, (hT.mono fun _ _ => .tail _).snoc (.head _) ⟨rfl, _, _, _, rfl⟩, by simp [hpl], ?_⟩)
      · simp only [List.forall_mem_cons]
        exact ⟨e1, e2, e3, fun e => Nat.lt_irrefl _ (Nat.lt_of_lt_of_eq e7 e), fun q hq => off q (.tail _ (.tail _ (.tail _ hq)))⟩
      · simp only [List.forall_mem_cons]
        exact ⟨fun e => Nat.lt_irrefl _ (Nat.lt_of_lt_of_eq e6 e), hfar⟩
      · intro k f l hkl
        rcases Nat.lt_trichotomy k ps.length with q | q | q
        · rw [List.getElem?_append_left q] at hkl
          exact hps k f l hkl
        · subst q
          rw [List.getElem?_append_right (Nat.le_refl _), Nat.sub_self] at hkl
          cases hkl
          generalize Int.fmod _ 1000000 = y
          have y1 : Int.fmod y 2 = y % 2 := fmod2 y
          have y2 : Int.fmod (Int.fdiv y 2) 32 = Int.fdiv y 2 % 32 := Int.fmod_eq_emod_of_nonneg _ (by decide)
          rw [y1, y2]
          exact ⟨by omega, Int.fdiv y 2 % 32, by omega, by omega, by rw [hpl]⟩
        · rw [List.getElem?_eq_none (by simp; omega)] at hkl; cases hkl
    · rintro k j ys news ⟨hk, rfl, zs, hz⟩ v I2 oI2 C oC D m₂ h3 tk3 E' ⟨t3, rfl⟩ hC' hx' F' N' off2
      dsimp only at N' off2 hx' ⊢
      have hq0 : (i : Int) + (j : Int) * (4 + (mn : Int)) < ct := in_step (by omega) (by omega)
      have hq1 : 0 ≤ (i : Int) + (j : Int) * (4 + (mn : Int)) := Int.add_nonneg (by omega) (Int.mul_nonneg (by omega) (by omega))
      generalize (i : Int) + (j : Int) * (4 + (mn : Int)) = q at hq0 hq1 hx'
      iterate 4 walk1
      rename Fr _ _ _ _ => F'
      rename News _ _ _ _ => N'
      exact LCg.CompEnd.intro F' N' _ (fun _ h => h) off2 trivial ⟨by omega, rfl, _, hz.append (.cons _ _ .nil)⟩
  · rintro h tk g m₁ news₁ F' N' ⟨rfl, hm, ⟨tmn, hmm⟩, hmb, us, nn, tl, ps, rfl, hfar, hT, hpl, hps⟩
    rw [names1 hm] at F'
    iterate 3 walk1
    dsimp only
    exact hQ nm _ _ us ps F'.keep (N' _ (.head _)).2.2 ⟨_, (N' _ (.head _)).1⟩ (hT.mono fun a o hm => ⟨(N' (a, o) (.tail _ (.tail _ (.tail _ hm)))).1, (N' (a, o) (.tail _ (.tail _ (.tail _ hm)))).2.2⟩) (by omega) (by omega) hps

-- Gn
section
variable {M : Model} {A : Around} {R : GenEnd} {Y : Protocol} {n : Nat} {s₀ : Shared} {c : Code} {fs : List Frame} {s : Shared} {env : Env}
  {K : Flow → Sem Fin} {H : Value → Sem Fin} {gd : Bool → Bool} {lv : List Value → List Value}

theorem seg_exec {st : Stmt} (h : wpAny M (A.over c fs) (exec st env) (fun f s' => Seg M A R Y n s₀ c (K f) fs s') (fun x s' => Seg M A R Y n s₀ c (H x) fs s') s) : Seg M A R Y n s₀ c ((exec st env).wrap K H gd lv) fs s := seg_wrap h

theorem seg_If {test : Expr} {body orelse : List Stmt} {pos : Pos}
    (h : wpAny M (A.over c fs) (isTrue test env (eval test env)) (fun b s' => if b = true then Seg M A R Y n s₀ c ((execs body env).wrap K H gd lv) fs s' else Seg M A R Y n s₀ c ((execs orelse env).wrap K H gd lv) fs s') (fun x s' => Seg M A R Y n s₀ c (H x) fs s') s) :
    Seg M A R Y n s₀ c ((exec (.If test body orelse pos) env).wrap K H gd lv) fs s := by
  rw [exec_If]
  refine seg_bind_wrap (wpAny_standAt ?_)
  refine seg_bind_wrap (wpAny_mono h (fun b s' hb => ?_) fun _ _ e => e)
  cases b with
  | true => exact hb
  | false => exact hb

theorem seg_For {target iter : Expr} {body orelse : List Stmt} {pos : Pos} (hs : ∀ x, foldedSetIterable iter env x = pure x)
    (h : wpAny M (A.over c fs) (eval iter env) (fun x s₁ => wpAny M (A.over c fs) (pyIter x) (fun it s₂ => ∀ p, Seg M A R Y n s₀ (.forLoop target it body orelse env) (M.den (.forLoop target it body orelse env))
      (.ret (fun r => ((match r with | .ok f => (.pure f : Sem Flow) | .error e => .raise e).onRaise fun (x : Value) => do
        if (← field x 1) == Value.none then unsupported "frame.own-activation:exception-without-traceback"
        setFlight x env.frame).wrap K H gd lv) none (gd false) (lv []) c p [] :: fs) s₂) (fun x s' => Seg M A R Y n s₀ c (H x) fs s') s₁) (fun x s' => Seg M A R Y n s₀ c (H x) fs s') s) :
    Seg M A R Y n s₀ c ((exec (.For target iter body orelse pos) env).wrap K H gd lv) fs s := by
  rw [exec_For]
  refine seg_bind_wrap (wpAny_standAt ?_)
  refine seg_bind_wrap (wpAny_mono h (fun x s₁ h₁ => ?_) fun _ _ e => e)
  refine seg_bind_wrap (wpAny_of_eq (hs x) ?_)
  refine seg_bind_wrap (wpAny_standAt ?_)
  refine seg_bind_wrap (wpAny_holding (wpAny_mono h₁ (fun it s₂ h₂ => ?_) fun _ _ e => e))
  exact seg_call h₂
end

section
variable {prog : Program} {w : World} {A : Around} {R : GenEnd} {Y : Protocol} {n : Nat} {s₀ : Shared} {fs : List Frame} {s : Shared} {env : Env}
abbrev forErr (env : Env) (e : Value) : Sem Fin := (do noteFrame e env; theTreesLotGoes e : Sem Unit).wrap (fun _ => .raise e) .raise id id
theorem seg_forLoop {target : Expr} {it : Value} {body orelse : List Stmt}
    (h : wpAny (model prog w) (A.over (.forLoop target it body orelse env) fs) (pyNext it) (fun r s' => match r with
        | none => Seg (model prog w) A R Y n s₀ (.forLoop target it body orelse env) (.pure (.again (.block orelse env))) fs s'
        | some v => wpAny (model prog w) (A.over (.forLoop target it body orelse env) fs) (letOwnedTupleGo target it v) (fun _ s₁ =>
            wpAny (model prog w) (A.over (.forLoop target it body orelse env) fs) (assign target env v) (fun _ s₂ =>
              Seg (model prog w) A R Y n s₀ (.forLoop target it body orelse env) ((execs body env).wrap (fun f => match f with
                | .next | .cont => .pure (.again (.forLoop target it body orelse env))
                | .brk => .pure (.done .next)
                | .ret v => .pure (.done (.ret v))) (forErr env) id id) fs s₂)
              (fun x s' => Seg (model prog w) A R Y n s₀ (.forLoop target it body orelse env) (forErr env x) fs s') s₁)
            (fun x s' => Seg (model prog w) A R Y n s₀ (.forLoop target it body orelse env) (forErr env x) fs s') s')
      (fun x s' => Seg (model prog w) A R Y n s₀ (.forLoop target it body orelse env) (forErr env x) fs s') s) :
    Seg (model prog w) A R Y n s₀ (.forLoop target it body orelse env) ((model prog w).den (.forLoop target it body orelse env)) fs s := by
  show Seg _ A R Y n s₀ _ ((forTurn target it body orelse env).onRaise (fun x => do noteFrame x env; theTreesLotGoes x)) fs s
  unfold forTurn
  rw [Sem.onRaise_eq_wrap]
  rw [Sem.wrap_congr _ _ _ (K' := .pure) (H' := forErr env) (fun _ => rfl) (fun e => by first | exact Sem.bind_eq_wrap _ _ | rfl)]
  refine seg_bind_wrap (wpAny_standAt ?_)
  refine seg_bind_wrap (wpAny_onRaise (wpAny_mono h (fun r s' hr => ?_) fun _ _ e => wpAny_standAt e))
  cases r with
  | none => exact hr
  | some v =>
    refine seg_bind_wrap (wpAny_mono hr (fun _ s₁ h₁ => ?_) fun _ _ e => e)
    refine seg_bind_wrap (wpAny_mono h₁ (fun _ s₂ h₂ => ?_) fun _ _ e => e)
    rw [Sem.bind_eq_wrap', Sem.wrap_wrap]
    refine Eq.mp (congrArg (fun t => Seg (model prog w) A R Y n s₀ (.forLoop target it body orelse env) t fs s₂) ?_) h₂
    exact Sem.wrap_congr (execs body env) _ _ (fun f => by cases f <;> rfl) (fun _ => rfl)
end

-- Gc
def Since (C lo : Nat) (s₀ s₁ : Shared) : Prop := ∃ h' tk, s₁ = { s₀ with heap := h', toks := tk } ∧ ∀ (b : Nat) (o : Obj), b ≠ C → b < lo → s₀.heap.get? b = some o → h'.get? b = some o
theorem Since.refl (C lo : Nat) (s : Shared) : Since C lo s s := ⟨s.heap, s.toks, rfl, fun _ _ _ _ e => e⟩
theorem Since.step {C lo : Nat} {s₀ s : Shared} (x : Since C lo s₀ s) {h' : Heap} {tk : Nat} (hk : ∀ (b : Nat) (o : Obj), b ≠ C → b < lo → s.heap.get? b = some o → h'.get? b = some o) : Since C lo s₀ { s with heap := h', toks := tk } := by
  obtain ⟨h₁, tk₁, rfl, hk₁⟩ := x
  exact ⟨h', tk, rfl, fun b o hC hw e => hk b o hC hw (hk₁ b o hC hw e)⟩

def GenY {α : Type} (hb : Heap) (C lo : Nat) (Item : α → Obj → Prop) (items : List α) : Protocol := fun m s₀ v s₁ kap =>
  ∃ (x : α) (T : Nat) (o : Obj) (gl : List (Addr × Obj)), items[items.length - 1 - m]? = some x ∧ v = .ref T ∧ s₁.heap.get? T = some o ∧ @LE.le Nat _ lo T ∧ Item x o ∧ Since C lo s₀ s₁ ∧
    (∀ q ∈ gl, s₁.heap.get? q.1 = some q.2 ∧ @LE.le Nat _ C q.1) ∧ ∀ s'' : Shared, Keep hb s''.heap → lo ≤ s''.heap.objs.size → (∀ q ∈ gl, s''.heap.get? q.1 = some q.2) → kap (.send .none) s''
def GenP (C lo : Nat) : Nat → Shared → Shared → Prop := fun n s₀ s₁ => n = 0 ∧ Since C lo s₀ s₁
def GenR (C lo : Nat) : GenEnd := fun n s₀ r s₁ => r = .ok (.ret .none) ∧ GenP C lo n s₀ s₁

theorem gens_set (g : Array GenState) (x y : GenState) : (g.push x).setIfInBounds g.size y = g.push y := by
  apply Array.ext
  · simp
  · intro i h1 h2
    simp only [Array.size_setIfInBounds, Array.size_push] at h1
    rw [Array.getElem_setIfInBounds (by simpa using h1)]
    by_cases h : g.size = i
    · subst h; simp
    · rw [if_neg h]
      rw [Array.getElem_push_lt (by omega), Array.getElem_push_lt (by omega)]
theorem setGen_push {h : Heap} {g : Array GenState} {x y : GenState} {d : Drawn} {t : Nat} {os : OsState} : (⟨h, g.push x, d, t, os⟩ : Shared).setGen g.size y = ⟨h, g.push y, d, t, os⟩ := by
  unfold Shared.setGen
  rw [gens_set]

section
variable {prog : Program} {w : World} {A : Around} {E : Value → Shared → Prop} {s : Shared} {env : Env}
theorem letGo_gen {elts : List Expr} {k} {pos : Pos} {a T : Addr} {g : Nat} {Q : Unit → Shared → Prop} (hg : s.heap.IsGen a g) (hQ : Q () s) : wpAny (model prog w) A (letOwnedTupleGo (.Tuple elts k pos) (.ref a) (.ref T)) Q E s := by
  obtain ⟨o, nm, qn, ho, hc, hd, hs⟩ := hg
  show wpAny _ _ (load a >>= _) _ _ s
  refine wpAny_bind (wpAny_load ho ?_)
  rw [hc, hd]
  exact wpAny_pure hQ

theorem For_gen {α : Type} {Item : α → Obj → Prop} {items : List α} {hb : Heap} {L C lo a : Nat} {m mC : Str → Option Value} {news : List (Addr × Obj)} {gens0 : Array GenState} {c : Code} {elts : List Expr} {ek} {epos : Pos} {body : List Stmt} {Q : Flow → Shared → Prop}
    (J : Nat → (Str → Option Value) → List (Addr × Obj) → Prop) (hh : A.handled = none) (hroom : A.depth < recursionLimit) (hlim : hb.NoLimit) (hgens : s.gens = gens0.push (.fresh c)) (hg : s.heap.IsGen a gens0.size)
    (hLC : L < C) (hCa : C < a) (hal : a < lo) (F : Fr hb L s.heap m) (N : News hb L s.heap news) (hnews : ∀ q ∈ news, @LT.lt Nat _ q.1 C) (hC : s.heap.Ns C mC) (hlo : lo ≤ s.heap.objs.size)
    (hseg : ∀ s' : Shared, Keep hb s'.heap → s'.heap.Ns C mC → (∃ o, s'.heap.get? a = some o) → Seg (model prog w) A.in1 (GenR C lo) (GenY hb C lo Item items) items.length s' c ((model prog w).den c) [] s')
    (h0 : J 0 m news)
    (step : ∀ j x (T : Nat) o m₁ news₁ more h tk g, items[j]? = some x → Item x o → J j m₁ news₁ → Fr hb L h m₁ → News hb L h (news₁ ++ more) → (T, o) ∈ more → (∀ q ∈ news₁, @LT.lt Nat _ q.1 C) → (∀ q ∈ more, @LE.le Nat _ C q.1) →
      wpAny (model prog w) A (assign (.Tuple elts ek epos) env (.ref T)) (fun _ s₂ => wpAny (model prog w) A (execs body env) (fun f s₃ => f = .next ∧ ∃ h' tk' m' news', s₃ = { s with heap := h', gens := g, toks := tk' } ∧ Fr hb L h' m' ∧ News hb L h' (news' ++ more) ∧ (∀ q ∈ news', @LT.lt Nat _ q.1 C) ∧ J (j + 1) m' news') E s₂) E { s with heap := h, gens := g, toks := tk })
    (done : ∀ h' tk m' news', Fr hb L h' m' → News hb L h' news' → J items.length m' news' → Q .next { s with heap := h', gens := gens0.push .finished, toks := tk })
    (hE : PassesOwn (model prog w) A env E := by passes_own) :
    codeAny (model prog w) A (.forLoop (.Tuple elts ek epos) (.ref a) body [] env) (fun r s' => match r with | .ok f => Q f s' | .error e => cameBackBy (model prog w) A env E e s') s := by
  have hbL : hb.objs.size ≤ L := F.above
  obtain ⟨oC, hoC, hoCn⟩ := LCg.ns_obj hC
  obtain ⟨oa, nm, qn, hoa, ga⟩ := hg
  have hbn : ∀ b : Nat, L < b → hb.get? b = none := fun b q => Heap.get?_none_of_le (Nat.le_trans hbL (Nat.le_of_lt q))
  refine codeAny_forLoop_any (fun k s' => ∃ (j : Nat) (h : Heap) (tk : Nat) (gs : GenState) (gl : List (Addr × Obj)) (m₁ : Str → Option Value) (news₁ : List (Addr × Obj)), j ≤ items.length ∧ k = items.length - j ∧ s' = { s with heap := h, gens := gens0.push gs, toks := tk } ∧ Fr hb L h m₁ ∧ News hb L h news₁ ∧ (∀ q ∈ news₁, @LT.lt Nat _ q.1 C) ∧ J j m₁ news₁ ∧ h.get? a = some oa ∧
      lo ≤ h.objs.size ∧ (∀ q ∈ gl, h.get? q.1 = some q.2 ∧ @LE.le Nat _ C q.1) ∧ ∀ s'' : Shared, Keep hb s''.heap → lo ≤ s''.heap.objs.size → (∀ q ∈ gl, s''.heap.get? q.1 = some q.2) → gs.Goes (model prog w) A.in1 (GenR C lo) (GenY hb C lo Item items) (items.length - j) (.send .none) s'') ?_ items.length
    ⟨0, s.heap, s.toks, .fresh c, [(C, oC), (a, oa)], m, news, Nat.zero_le _, rfl, by rw [← hgens], F, N, hnews, h0, hoa, hlo, fun q hq => ?_, fun s'' hk hl hq => ⟨rfl, hseg s'' hk (hoCn.ns (hq (C, oC) List.mem_cons_self)) ⟨oa, hq (a, oa) (by simp)⟩⟩⟩
  · rintro n s' ⟨j, h, tk, gs, gl, m₁, news₁, hj, rfl, rfl, F₁, N₁, hn₁, hJ, ha₁, hl₁, hgl, hgo⟩
    have hga : h.IsGen a gens0.size := ⟨oa, nm, qn, ha₁, ga⟩
    refine wpAny_pyNext_gen (g := gens0.size) (gs := gs) (n := items.length - j) (P := GenP C lo) (Y := GenY hb C lo Item items) hh (hlim.keeps F₁.keep) hroom hga (by simp) ?_ ?_ ?_
    · rw [setGen_push]
      exact hgo _ F₁.keep hl₁ fun q hq => (hgl q hq).1
    · rintro v s₁ gs' ⟨x, T, o, gl', hx, rfl, hT, hTl, hI, ⟨h₁, tk₁, rfl, hk₁⟩, hgl', hgo'⟩
      rw [setGen_push] at hk₁
      dsimp only at hk₁ hT hgl' hgo' ⊢
      simp only [setGen_push]
      obtain ⟨n', hn'⟩ : ∃ n', items.length - j = n' + 1 := by
        cases hq : items.length - j with
        | zero =>
          exfalso
          rw [hq] at hgo'
          exact hgo' ⟨h₁, gens0, s.drawn, tk₁, s.os⟩ (fun b o e => hk₁ b o (fun q => by rw [q, hbn C hLC] at e; cases e) (Nat.lt_of_lt_of_le (Heap.lt_size e) (by omega)) (F₁.keep b o e)) (by show @LE.le Nat _ lo h₁.objs.size; have : @LT.lt Nat _ T h₁.objs.size := Heap.lt_size hT; omega) fun q hq => (hgl' q hq).1
        | succ n' => exact ⟨n', rfl⟩
      have hlow : ∀ (b : Nat) (o : Obj), b < C → h.get? b = some o → h₁.get? b = some o := fun b o q e => hk₁ b o (Nat.ne_of_lt q) (by omega) e
      have F₂ : Fr hb L h₁ m₁ := ⟨F₁.ns.at' fun o e => hlow L o hLC e, fun b o e => hlow b o (Nat.lt_of_lt_of_le (Heap.lt_size e) (by omega)) (F₁.keep b o e), hbL⟩
      have N₂ : News hb L h₁ news₁ := fun q hq => ⟨hlow _ _ (hn₁ q hq) (N₁ q hq).1, (N₁ q hq).2⟩
      have ha₂ : h₁.get? a = some oa := hk₁ a oa (Nat.ne_of_gt hCa) hal ha₁
      have hxj : items[j]? = some x := by rw [← hx]; congr 1; omega
      have hmore : ∀ q ∈ ((T, o) :: (a, oa) :: gl'), h₁.get? q.1 = some q.2 ∧ @LE.le Nat _ C q.1 := fun q hq => by
        rcases List.mem_cons.mp hq with rfl | hq
        · exact ⟨hT, by show @LE.le Nat _ C T; omega⟩
        · rcases List.mem_cons.mp hq with rfl | hq
          · exact ⟨ha₂, by show @LE.le Nat _ C a; omega⟩
          · have := hgl' q hq
            exact ⟨this.1, this.2⟩
      have N₃ : News hb L h₁ (news₁ ++ ((T, o) :: (a, oa) :: gl')) := fun q hq => by
        rcases List.mem_append.mp hq with hq | hq
        · exact N₂ q hq
        · have := hmore q hq
          exact ⟨this.1, fun e => by rw [e] at this; have := this.2; omega, hbn _ (by have := this.2; omega)⟩
      refine letGo_gen (g := gens0.size) ⟨oa, nm, qn, ha₂, ga⟩ ?_
      refine wpAny_mono (step j x T o m₁ news₁ _ h₁ tk₁ (gens0.push gs') hxj hI hJ F₂ N₃ (.head _) hn₁ fun q hq => (hmore q hq).2) (fun _ s₂ h₂ => wpAny_mono h₂ (fun f s₃ h₃ => ?_) hE) hE
      obtain ⟨rfl, h', tk', m', news', rfl, F', N', hn'', hJ'⟩ := h₃
      refine ⟨items.length - (j + 1), by omega, j + 1, h', tk', gs', gl', m', news', by omega, rfl, rfl, F', fun q hq => N' q (List.mem_append_left _ hq), hn'', hJ', (N' (a, oa) (by simp)).1, ?_, fun q hq => ⟨(N' q (by simp [hq])).1, (hgl' q hq).2⟩, fun s'' hk hl hq => ?_⟩
      · have := Heap.lt_size (N' (T, o) (by simp)).1
        have : T < h'.objs.size := this
        omega
      · have := hgo' s'' hk hl hq
        rw [hn'] at this
        rw [show items.length - (j + 1) = n' from by omega]
        exact this
    · rintro s₁ ⟨hz, h₁, tk₁, rfl, hk₁⟩ h₂ hk₂
      rw [setGen_push] at hk₁
      dsimp only at hk₁ hk₂ ⊢
      simp only [setGen_push]
      have hjl : j = items.length := by omega
      subst hjl
      have hlow : ∀ (b : Nat) (o : Obj), b < C → h.get? b = some o → h₂.get? b = some o := fun b o q e => hk₂ b o (hk₁ b o (Nat.ne_of_lt q) (by omega) e)
      have F₂ : Fr hb L h₂ m₁ := ⟨F₁.ns.at' fun o e => hlow L o hLC e, fun b o e => hlow b o (Nat.lt_of_lt_of_le (Heap.lt_size e) (by omega)) (F₁.keep b o e), hbL⟩
      have N₂ : News hb L h₂ news₁ := fun q hq => ⟨hlow _ _ (hn₁ q hq) (N₁ q hq).1, (N₁ q hq).2⟩
      exact wpAny_execs_nil (done h₂ tk₁ m₁ news₁ F₂ N₂ hJ)
  · rcases List.mem_cons.mp hq with rfl | hq
    · exact ⟨hoC, Nat.le_refl _⟩
    · rcases List.mem_singleton.mp hq with rfl
      exact ⟨hoa, Nat.le_of_lt hCa⟩
end

-- E6
def escItems : List Nat → Nat → Bool → List (Nat × List Nat)
  | [], _, _ => []
  | c :: r, i, true => (i, [92, c]) :: escItems r (i + 1) false
  | c :: r, i, false => if c = 92 then escItems r (i + 1) true else (i, [c]) :: escItems r (i + 1) false
def escEnd : List Nat → Bool → Bool
  | [], e => e
  | _ :: r, true => escEnd r false
  | c :: r, false => escEnd r (decide (c = 92))
def cut (os : List Nat) (a b : Nat) : List Nat := (os.drop a).take (b - a)
def stripLoop (os : List Nat) : List (Nat × List Nat) → Nat → Option Nat → List (List Nat) → Nat × List (List Nat)
  | [], st, _, res => (st, res)
  | (pos, ch) :: r, st, op, res =>
    if ch = [34] then
      match op with
      | none => stripLoop os r st (some pos) res
      | some p => stripLoop os r (pos + 1) none (if st = p then res else res ++ [cut os st p])
    else stripLoop os r st op res
def stripEnd (os : List Nat) (q : Nat × List (List Nat)) : List Nat := (q.2 ++ (if q.1 < os.length then [os.drop q.1] else [])).flatten
def stripOf (os : List Nat) : List Nat := if 34 ∈ os then stripEnd os (stripLoop os (escItems os 0 false) 0 none []) else os

section
variable {w : World} {A : Around} {E : Value → Shared → Prop} {s : Shared} {p : Program} {loose : List Str} {mg mb : Str → Option Value}
theorem enterG {name qual : Str} {params : Arguments} {body : List Stmt} {scope : Scope} {dV kV doc pm cdv ct oc : Value} {an od : Option Addr} {osl : Array (Option Value)} {f : Addr} {args : List Value} {Q : Value → Shared → Prop} {hb : Heap}
    (binds : List (Str × Value)) (G : Gd w p loose mg mb hb) (hk : Keep hb s.heap) (hroom : A.depth < recursionLimit)
    (ho : (Mine.hd.heap_39 w.params).lookup f = some ⟨oc, od, .func (fnOf name qual params body scope dV kV doc pm an cdv ct), osl⟩) (hcd : codeIn (Mine.hd.heap_39 w.params) cdv qual = true)
    (hbind : bindArgs (fnOf name qual params body scope dV kV doc pm an cdv ct) ⟨args, []⟩ = pure binds) (hloc : ∀ y ∈ binds, scope.names.lookup y.1 = some .local)
    (h : ∀ h₁ tk, Keep s.heap h₁ → h₁.Ns s.heap.objs.size (fun y => binds.reverse.lookup y) → h₁.IsGen (s.heap.objs.size + 1) s.gens.size → h₁.objs.size = s.heap.objs.size + 2 →
      Q (.ref (s.heap.objs.size + 1)) { s with heap := h₁, gens := s.gens.push (.fresh (.func body (envOf qual scope s.heap.objs.size f cdv))), toks := tk })
    (hco : scope.isCoroutine = false := by rfl) (hgen : scope.isGenerator = true := by rfl) (hkf : scope.kind = .function := by rfl)
    (hcell : ∀ x ∈ scope.names, x.2 ≠ .cell := by decide) :
    wpAny (model PG w) A (call (.ref f) args) Q E s := by
  have Gs := G.keeps hk
  refine wpAny_call ?_
  refine codeAny_call_generator (fd := fnOf name qual params body scope dV kV doc pm an cdv ct) (body := body) hroom (Gs.k _ _ ho) rfl hco hgen rfl (codeRec_of Gs.k hcd) ?_
  rw [hbind]
  refine wpAny_pure (wpAny_newFunctionEnv hcell hloc (fun h₁ hns hsb => ⟨Gs.t.nolimit.fresh _ hsb, ?_⟩) hkf)
  have hz : h₁.objs.size = s.heap.objs.size + 1 := by rw [hsb.1, Heap.size_push]
  dsimp only
  rw [hz]
  refine h _ _ (fun b o e => Heap.get?_push_of_some _ (hsb.extBut b o (Nat.ne_of_lt (Heap.lt_size e)) (Heap.get?_push_of_some _ e))) (hns.at' fun o e => Heap.get?_push_of_some _ e) ?_ (by rw [Heap.size_push, hz])
  have := Heap.get?_push_size h₁ (o := { cls := .type "generator", data := .fields #[.int s.gens.size 0, .str name (s.toks + binds.length), .str qual (s.toks + binds.length + 1)] }) rfl
  rw [hz] at this
  exact ⟨_, _, _, this, rfl, rfl, rfl⟩
end

def EscItem (x : Nat × List Nat) (o : Obj) : Prop := o.cls = .type "tuple" ∧ ∃ t t' n, o.data = .seq #[.int x.1 t, .str ⟨x.2.toArray⟩ t'] n

def OpIs (o : Option Value) : Option Nat → Prop
  | none => o = some .none
  | some p => ∃ t, o = some (.int (p : Int) t)
theorem names4 {a b c d : Str} {u v x y : Option Value} {m : Str → Option Value} (h1 : m a = u) (h2 : m b = v) (h3 : m c = x) (h4 : m d = y) : m = fun z => if z = a then u else if z = b then v else if z = c then x else if z = d then y else m z := by
  funext z
  by_cases e1 : z = a
  · rw [if_pos e1, e1, h1]
  · rw [if_neg e1]
    by_cases e2 : z = b
    · rw [if_pos e2, e2, h2]
    · rw [if_neg e2]
      by_cases e3 : z = c
      · rw [if_pos e3, e3, h3]
      · rw [if_neg e3]
        by_cases e4 : z = d
        · rw [if_pos e4, e4, h4]
        · rw [if_neg e4]

theorem esc_range : ∀ (os : List Nat) (i : Nat) (e : Bool) (x : Nat × List Nat), x ∈ escItems os i e → i ≤ x.1 ∧ x.1 < i + os.length
  | [], _, _, _, h => by simp [escItems] at h
  | c :: r, i, true, x, h => by
    rw [escItems] at h
    rcases List.mem_cons.mp h with rfl | h
    · simp
    · have := esc_range r (i + 1) false x h
      rw [List.length_cons]; omega
  | c :: r, i, false, x, h => by
    rw [escItems] at h
    split at h
    · have := esc_range r (i + 1) true x h
      rw [List.length_cons]; omega
    · rcases List.mem_cons.mp h with rfl | h
      · simp
      · have := esc_range r (i + 1) false x h
        rw [List.length_cons]; omega
theorem esc_pair : ∀ (os : List Nat) (i : Nat) (e : Bool), (escItems os i e).Pairwise fun a b => a.1 < b.1
  | [], _, _ => by simp [escItems]
  | c :: r, i, true => by
    rw [escItems, List.pairwise_cons]
    exact ⟨fun x h => by have := esc_range r (i + 1) false x h; show i < x.1; omega, esc_pair r _ _⟩
  | c :: r, i, false => by
    rw [escItems]
    split
    · exact esc_pair r _ _
    · rw [List.pairwise_cons]
      exact ⟨fun x h => by have := esc_range r (i + 1) false x h; show i < x.1; omega, esc_pair r _ _⟩
theorem esc_length : ∀ (os : List Nat) (i : Nat) (e : Bool), (escItems os i e).length ≤ os.length
  | [], _, _ => by simp [escItems]
  | c :: r, i, true => by
    rw [escItems, List.length_cons, List.length_cons]
    have := esc_length r (i + 1) false; omega
  | c :: r, i, false => by
    rw [escItems]
    split
    · have := esc_length r (i + 1) true
      rw [List.length_cons]; omega
    · rw [List.length_cons, List.length_cons]
      have := esc_length r (i + 1) false; omega
theorem strs_length : ∀ {vs : List Value} {ys : List Str}, StrsAre vs ys → vs.length = ys.length
  | _, _, .nil => rfl
  | _, _, .cons _ _ h => by rw [List.length_cons, List.length_cons, strs_length h]
theorem strs_snoc (y : Str) (t : Tok) : ∀ {vs : List Value} {ys : List Str}, StrsAre vs ys → StrsAre (vs ++ [.str y t]) (ys ++ [y])
  | _, _, .nil => .cons y t .nil
  | _, _, .cons z u h => .cons z u (strs_snoc y t h)
theorem slice_mid {os : List Nat} {a b : Nat} (h1 : a ≤ b) (h2 : b ≤ os.length) : Txt.slice ⟨os.toArray⟩ (some (a : Int)) (some (b : Int)) = ⟨(cut os a b).toArray⟩ := by
  have := slice_closesL (x := ⟨os.toArray⟩) (i := a) (j := b) (by omega) (by omega) (by show (b : Int) ≤ ((os.toArray.size : Nat) : Int); simpa using h2)
  rw [beq_iff_eq] at this
  rw [this, cut]
  simp
theorem slice_end {os : List Nat} {a : Nat} (h1 : a ≤ os.length) : Txt.slice ⟨os.toArray⟩ (some (a : Int)) none = ⟨(os.drop a).toArray⟩ := by
  have := slice_closes_fromL (x := ⟨os.toArray⟩) (i := a) (b := os.length) (by omega) (by show (a : Int) ≤ ((os.toArray.size : Nat) : Int); simpa using h1) (by show _ = ((os.toArray.size : Nat) : Int); simp)
  rw [beq_iff_eq] at this
  rw [this]
  simp only [List.toList_toArray, Int.toNat_natCast]
  rw [List.take_of_length_le]
  rw [List.length_drop]; omega

theorem foldl_glue : ∀ (l : List (List Nat)) (a : List Nat), List.foldl (fun (acc : Array Nat) (p : Str) => acc ++ (#[] : Array Nat) ++ p.cps) a.toArray (l.map fun x => (⟨x.toArray⟩ : Str)) = (a ++ l.flatten).toArray
  | [], a => by simp
  | x :: r, a => by
    rw [List.map_cons, List.foldl_cons]
    have : (a.toArray ++ (#[] : Array Nat) ++ x.toArray) = (a ++ x).toArray := by simp
    show List.foldl _ (a.toArray ++ (#[] : Array Nat) ++ x.toArray) _ = _
    rw [this, foldl_glue r (a ++ x), List.flatten_cons, List.append_assoc]
theorem join_flat (l : List (List Nat)) : Txt.join ⟨#[]⟩ (l.map fun x => ⟨x.toArray⟩) = ⟨l.flatten.toArray⟩ := by
  unfold Txt.join Builtin.Str.glued
  cases l with
  | nil => rfl
  | cons x r =>
    simp only [List.map_cons, List.drop_one, List.tail_cons, List.headD_cons]
    rw [foldl_glue r x, List.flatten_cons]
theorem sum_le {α : Type} (f : α → Nat) (c : Nat) : ∀ (l : List α), (∀ x ∈ l, f x ≤ c) → (l.map f).sum ≤ l.length * c
  | [], _ => by simp
  | x :: r, h => by
    rw [List.map_cons, List.sum_cons, List.length_cons, Nat.succ_mul]
    have := sum_le f c r fun y hy => h y (.tail _ hy)
    have := h x (.head _)
    omega

-- S6g

def Cov (hb : Heap) (C lo : Nat) (h₀ : Heap) (cl : List (Addr × Obj)) : Prop := ∀ (b : Nat) (o : Obj), b ≠ C → b < lo → h₀.get? b = some o → hb.get? b = some o ∨ (b, o) ∈ cl
theorem cov_make {hb h₀ : Heap} {C lo : Nat} (hk : Keep hb h₀) : ∃ cl, News hb C h₀ cl ∧ Cov hb C lo h₀ cl ∧ ∀ q ∈ cl, @LT.lt Nat _ q.1 lo := by
  refine ⟨(List.range lo).filterMap fun b => if b = C then none else if (hb.get? b).isSome then none else (h₀.get? b).map fun o => ((b : Addr), o), fun q hq => ?_, fun b o hC hl e => ?_, fun q hq => ?_⟩
  · obtain ⟨b, hb1, hb2⟩ := List.mem_filterMap.mp hq
    split at hb2
    · cases hb2
    · rename_i hbC
      split at hb2
      · cases hb2
      · rename_i hn
        obtain ⟨o, ho, rfl⟩ := Option.map_eq_some_iff.mp hb2
        exact ⟨ho, hbC, by simpa using hn⟩
  · cases q : hb.get? b with
    | some o' =>
      have := hk b o' q
      rw [e] at this
      exact .inl this.symm
    | none =>
      refine .inr (List.mem_filterMap.mpr ⟨b, List.mem_range.mpr hl, ?_⟩)
      rw [if_neg hC, q, e]
      rfl
  · obtain ⟨b, hb1, hb2⟩ := List.mem_filterMap.mp hq
    split at hb2
    · cases hb2
    · split at hb2
      · cases hb2
      · obtain ⟨o, ho, rfl⟩ := Option.map_eq_some_iff.mp hb2
        exact List.mem_range.mp hb1
theorem since_of {hb : Heap} {C lo : Nat} {s₀ : Shared} {h : Heap} {tk : Nat} {m : Str → Option Value} {cl : List (Addr × Obj)} (F : Fr hb C h m) (N : News hb C h cl) (cov : Cov hb C lo s₀.heap cl) : Since C lo s₀ { s₀ with heap := h, toks := tk } :=
  ⟨h, tk, rfl, fun b o hC hl e => (cov b o hC hl e).elim (fun x => F.keep b o x) fun x => (N (b, o) x).1⟩

theorem seg_for_inv {prog : Program} {w : World} {A : Around} {R : GenEnd} {Y : Protocol} {fs : List Frame} {env : Env} {target : Expr} {it : Value} {body orelse : List Stmt} (I : Nat → Nat → Shared → Shared → Prop)
    (turn : ∀ k n s₀ s, (∀ k' n' s₀' s', k' < k → I k' n' s₀' s' → Seg (model prog w) A R Y n' s₀' (.forLoop target it body orelse env) ((model prog w).den (.forLoop target it body orelse env)) fs s') → I k n s₀ s →
      Seg (model prog w) A R Y n s₀ (.forLoop target it body orelse env) ((model prog w).den (.forLoop target it body orelse env)) fs s) :
    ∀ k n s₀ s, I k n s₀ s → Seg (model prog w) A R Y n s₀ (.forLoop target it body orelse env) ((model prog w).den (.forLoop target it body orelse env)) fs s := by
  intro k
  induction k using Nat.strongRecOn with
  | _ k ih => intro n s₀ s h; exact turn k n s₀ s (fun k' n' s₀' s' hlt hi => ih k' hlt n' s₀' s' hi) h

theorem enum_turn {prog : Program} {w : World} {A : Around} {E : Value → Shared → Prop} {s : Shared} {env : Env} {h₀ : Heap} {L : Addr} {m : Str → Option Value} {cl : List (Addr × Obj)} {e it : Addr} {x : Str} {t : Tok} {i : Nat} {old : Value}
    {elts : List Expr} {k} {pos : Pos} {Nn : Shared → Prop} {B : Shared → Prop} (hh : A.handled = none) (F : Fr h₀ L s.heap m) (N : News h₀ L s.heap cl) (he : IsEnum s.heap e it i old) (hit : s.heap.IsStrIter it "str_ascii_iterator" x t i)
    (hei : e ≠ it) (hLe : L ≠ e) (hLi : L ≠ it) (h0e : h₀.get? e = none) (h0i : h₀.get? it = none) (hce : ∀ q ∈ cl, q.1 ≠ e ∧ q.1 ≠ it) (hlen : (assignEach elts env).length = 2) (hstar : (assignEach elts env).findIdx? (·.1) = none)
    (item : ∀ c h₂ tk t1 u oe oit old', x.cps[i]? = some c → Fr h₀ L h₂ m → News h₀ L h₂ ((e, oe) :: (it, oit) :: cl) → (∀ h : Heap, h.get? e = some oe → IsEnum h e it ((i + 1 : Nat) : Int) old') → (∀ h : Heap, h.get? it = some oit → h.IsStrIter it "str_ascii_iterator" x t (i + 1)) →
      wpAny (model prog w) A (assignInOrder ((assignEach elts env).map (·.2)) [.int i t1, .str ⟨#[c]⟩ u]) (fun _ s₂ => B s₂) E { s with heap := h₂, toks := tk })
    (done : ∀ h₂ tk, x.cps.size ≤ i → Fr h₀ L h₂ m → News h₀ L h₂ cl → Nn { s with heap := h₂, toks := tk }) (hi : i ≤ x.cps.size) :
    wpAny (model prog w) A (pyNext (.ref e)) (fun r s' => match r with
      | none => Nn s'
      | some v => wpAny (model prog w) A (letOwnedTupleGo (.Tuple elts k pos) (.ref e) v) (fun _ s₁ => wpAny (model prog w) A (assign (.Tuple elts k pos) env v) (fun _ s₂ => B s₂) E s₁) E s') E s := by
  have W := WalksT.enumerateD (Draws.strAscii (prog := prog) (w := w) (A := A.in1) hh it x t) e hei (fun hm => hei (List.mem_singleton.mp hm)) (.head _)
  have keepF : ∀ {h' : Heap}, (∀ b o, b ∉ [e, it] → s.heap.get? b = some o → h'.get? b = some o) → Fr h₀ L h' m ∧ News h₀ L h' cl := fun hk => by
    refine ⟨⟨F.ns.at' fun o y => hk L o (by simp [hLe, hLi]) y, fun b o y => hk b o (fun hm => ?_) (F.keep b o y), F.above⟩, fun q hq => ⟨hk _ _ (by simp [hce q hq]) (N q hq).1, (N q hq).2⟩⟩
    rcases List.mem_cons.mp hm with rfl | hm
    · rw [h0e] at y; cases y
    · rw [List.mem_singleton.mp hm, h0i] at y; cases y
  rcases Nat.lt_or_ge i x.cps.size with hlt | hge
  · refine W.item i s _ _ hlt ⟨⟨old, he⟩, hit⟩ fun T vals h1 tk1 hP hT hTup hMid hk1 => ?_
    obtain ⟨t1, x1, ⟨c, u, hc, rfl⟩, rfl⟩ := hP
    refine W.go elts k pos i T _ _ _ hMid fun h2 hst2 hk2 => ?_
    have hTe := W.apart _ _ _ hMid
    obtain ⟨oT, hoT, hcT, nT, hdT⟩ := hTup
    have hk12 : ∀ b o, b ∉ [e, it] → s.heap.get? b = some o → h2.get? b = some o := fun b o hb y => hk2 b o hb (hk1 b o hb y)
    obtain ⟨F2, N2⟩ := keepF hk12
    obtain ⟨⟨old', he2⟩, oit, hoit, rit⟩ := hst2
    have N3 : News h₀ L h2 ((e, _) :: (it, oit) :: cl) := fun q hq => by
      rcases List.mem_cons.mp hq with rfl | hq
      · exact ⟨he2, Ne.symm hLe, h0e⟩
      · rcases List.mem_cons.mp hq with rfl | hq
        · exact ⟨hoit, Ne.symm hLi, h0i⟩
        · exact N2 q hq
    refine unpackN_ F2 N3 ⟨oT, hk2 T oT hTe hoT, hcT, nT, hdT⟩ hh (by rw [hlen]; rfl) hstar fun h3 F3 N3 => ?_
    exact item c h3 _ t1 u _ oit old' hc F3 N3 (fun h y => y) fun h y => ⟨oit, y, rit⟩
  · obtain rfl : i = x.cps.size := Nat.le_antisymm hi hge
    refine W.done s _ _ ⟨⟨old, he⟩, hit⟩ fun h2 tk2 hk2 => ?_
    obtain ⟨F2, N2⟩ := keepF hk2
    exact done h2 tk2 (Nat.le_refl _) F2 N2

theorem idx_of {α : Type} {l r : List α} {x : α} (h : l.drop (l.length - (r.length + 1)) = x :: r) : l[l.length - 1 - r.length]? = some x ∧ l.drop (l.length - r.length) = r := by
  have hl := congrArg List.length h
  rw [List.length_drop, List.length_cons] at hl
  constructor
  · rw [Nat.sub_sub, Nat.add_comm 1]
    have := congrArg (fun y => y[0]?) h
    simpa using this
  · have e : l.length - r.length = (l.length - (r.length + 1)) + 1 := by omega
    rw [e, ← List.drop_drop, h]
    rfl

theorem pair_front {h₀ h : Heap} {L e it : Addr} {oe oit : Obj} {cl : List (Addr × Obj)} (h1 : h.get? e = some oe) (h2 : h.get? it = some oit) (n1 : e ≠ L) (n2 : it ≠ L) (e1 : h₀.get? e = none) (e2 : h₀.get? it = none) (N : News h₀ L h cl) : News h₀ L h ((e, oe) :: (it, oit) :: cl) := fun q hq => by
  rcases List.mem_cons.mp hq with rfl | hq
  · exact ⟨h1, n1, e1⟩
  · rcases List.mem_cons.mp hq with rfl | hq
    · exact ⟨h2, n2, e2⟩
    · exact N q hq

theorem esc_seg {w : World} {A : Around} {p : Program} {loose : List Str} {mg mb : Str → Option Value} {hb : Heap} (G : Gd w p loose mg mb hb) (hdp : A.depth < 900)
  (hh : A.handled = none) {os : List Nat} {t : Tok} (hasc : ∀ c ∈ os, c < 128) (hsz : os.length ≤ 500) (hend : escEnd os false = false) {C a lo : Nat} (hCb : hb.objs.size ≤ C) (hCa : C < a) (hal : a + 1 = lo)
  {name qual : Str} {params : Arguments} {body : List Stmt} {scope : Scope} {dV kV doc pm cdv ct oc : Value} {an od : Option Addr} {osl : Array (Option Value)}
  (ho : (Mine.hd.heap_39 w.params).lookup 21 = some ⟨oc, od, .func (fnOf name qual params body scope dV kV doc pm an cdv ct), osl⟩) (s' : Shared) (hk : Keep hb s'.heap)
  (hns : s'.heap.Ns C (fun y => List.lookup y ([("addr", .str ⟨os.toArray⟩ t)] : List (Str × Value)).reverse)) {oa : Obj} (hoa : s'.heap.get? a = some oa) :
  Seg (model PG w) A (GenR C lo) (GenY hb C lo EscItem (escItems os 0 false)) (escItems os 0 false).length s' (.func body (envOf qual scope C 21 cdv)) ((model PG w).den (.func body (envOf qual scope C 21 cdv))) [] s' := by
  have e := ho
  rw [show (Mine.hd.heap_39 w.params).lookup 21 = some ⟨_, _, .func (fnOf _ _ _ _ _ _ _ _ _ _ _ _), _⟩ from rfl] at e
  cases e
  have X' := G.k
  have T' := G.t
  have F' : Fr hb C s'.heap (fun y => List.lookup y ([("addr", .str ⟨os.toArray⟩ t)] : List (Str × Value)).reverse) := ⟨hns, hk, hCb⟩
  obtain ⟨cl, N', cov, hcl⟩ := cov_make (C := C) (lo := lo) hk
  have hao : (a, oa) ∈ cl := (cov a oa (by omega) (by omega) hoa).resolve_left fun e => by
    rw [Heap.get?_none_of_le (by show hb.objs.size ≤ a; omega)] at e; cases e
  refine seg_func ?_
  refine seg_execs_cons (seg_exec ?_)
  iterate 3 walk1
  refine seg_execs_cons (seg_exec ?_)
  iterate 3 walk1
  clear ho
  refine seg_execs_cons (seg_For (fun _ => by rfl) ?_)
  iterate 5 walk1
  rename Fr _ _ _ _ => F9
  rename News _ _ _ _ => N9
  refine Calls.spliced_nil ?_
  have hsz0 := Heap.lt_size (N9 (a, oa) hao).1
  refine call_enumerate_str fun h3 he hit hz3 hk3 => ?_
  refine wpAny_pyIter_enum he ?_
  intro pp
  have F3 := F9.keeps hk3
  have N3 := N9.grown hk3
  dsimp only at hsz0 he hit hz3 hk3 ⊢
  rw [show strIterType ⟨os.toArray⟩ = "str_ascii_iterator" from by
    have : os.toArray.all (· < 128) = true := by simp; exact hasc
    unfold strIterType
    rw [if_pos this]] at hit
  generalize hE : Array.size _ = sz at hsz0 he hit hz3 ⊢
  clear hE
  have hsz1 : @LT.lt Nat _ a sz := hsz0
  refine seg_for_inv (fun k n s₀ s => ∃ i esc m old cl, k = os.length - i ∧ i ≤ os.length ∧ n = (escItems (os.drop i) i esc).length ∧ escEnd (os.drop i) esc = false ∧ (escItems os 0 false).drop ((escItems os 0 false).length - n) = escItems (os.drop i) i esc ∧
      (∃ h tk, s = { s₀ with heap := h, toks := tk }) ∧ Fr hb C s.heap m ∧ m "escape" = some (.bool esc) ∧ News hb C s.heap cl ∧ Cov hb C lo s₀.heap cl ∧ (∀ q ∈ cl, @LT.lt Nat _ q.1 lo) ∧ IsEnum s.heap (sz + 1) sz i old ∧ s.heap.IsStrIter sz "str_ascii_iterator" ⟨os.toArray⟩ t i) ?_ os.length _ _ _
    ⟨0, false, _, .none, cl, rfl, Nat.zero_le _, rfl, hend, by simp, ⟨_, _, rfl⟩, F3, rfl, N3, cov, hcl, he, hit⟩
  rintro k n s₀ s ih ⟨i, esc, m, old, cl, rfl, hi, rfl, hend, hdrop, ⟨h, tk, rfl⟩, F, hm, N, cov, hcl, he, hit⟩
  dsimp only at F N he hit
  refine seg_forLoop ?_
  have hhb : ∀ b : Nat, a < b → hb.get? b = none := fun b q => Heap.get?_none_of_le (by show hb.objs.size ≤ b; omega)
  refine enum_turn (by exact hh) F N he hit (Nat.succ_ne_self _) (Nat.ne_of_lt (by omega)) (Nat.ne_of_lt (by omega)) (hhb _ (by omega)) (hhb _ (by omega)) (fun q hq => ⟨Nat.ne_of_lt (by have := hcl q hq; omega), Nat.ne_of_lt (by have := hcl q hq; omega)⟩) rfl rfl ?_ ?_ (by simpa using hi)
  · intro c h2 tk2 t1 u oe oit old' hc F' N' hoe hoit
    rw [names1 hm] at F'
    iterate 7 walk1
    have hcc : os[i]? = some c := by simpa using hc
    obtain ⟨hil, hic⟩ := List.getElem?_eq_some_iff.mp hcc
    have hdr : os.drop i = c :: os.drop (i + 1) := by rw [List.drop_eq_getElem_cons hil, hic]
    rw [hdr] at hend hdrop ⊢
    cases esc with
    | true =>
      rw [escItems] at hdrop ⊢
      rw [escEnd] at hend
      rw [List.length_cons] at hdrop ⊢
      refine seg_execs_cons (seg_If ?_)
      iterate 3 walk1
      rw [if_pos rfl]
      refine seg_execs_cons (seg_Expr_Yield rfl rfl rfl ?_)
      iterate 10 walk1
      rename_i T2 h8 F8 N8 l8
      rw [show Str.ofString "\\" ++ (⟨#[c]⟩ : Str) = ⟨[92, c].toArray⟩ from by rfl] at N8
      have hT2 : @LT.lt Nat _ (sz + 1) T2 := l8.1
      obtain ⟨oC, hoC, hCn⟩ := LCg.ns_obj F8.ns
      intro kap hkap
      refine ⟨(i, [92, c]), T2, _, [(C, oC), (sz + 1, oe), (sz, oit)], ?_, rfl, (N8 _ (.head _)).1, by omega, ?_, since_of F8 (PN.sub N8 fun q hq => .tail _ (.tail _ (.tail _ hq))) cov, ?_, fun s'' hk'' hl'' hgl => hkap .none s'' ?_⟩
      · exact (idx_of hdrop).1
      · exact ⟨rfl, _, _, _, rfl⟩
      · intro q hq
        simp only [List.mem_cons, List.not_mem_nil, or_false] at hq
        rcases hq with rfl | rfl | rfl
        · exact ⟨hoC, Nat.le_refl _⟩
        · exact ⟨(N8 _ (.tail _ (.head _))).1, by show @LE.le Nat _ C (sz + 1); omega⟩
        · exact ⟨(N8 _ (.tail _ (.tail _ (.head _)))).1, by show @LE.le Nat _ C sz; omega⟩
      · dsimp only
        have F' : Fr hb C s''.heap _ := ⟨hCn.ns (hgl (C, oC) (.head _)), hk'', hCb⟩
        obtain ⟨cl2, N2, cov2, hcl2⟩ := cov_make (C := C) (lo := lo) hk''
        have N' := pair_front (hgl (sz + 1, oe) (.tail _ (.head _))) (hgl (sz, oit) (.tail _ (.tail _ (.head _)))) (Nat.ne_of_gt (by omega)) (Nat.ne_of_gt (by omega)) (hhb _ (by omega)) (hhb _ (by omega)) N2
        refine seg_execs_cons (seg_exec ?_)
        iterate 3 walk1
        rename Fr _ _ _ _ => F9
        rename News _ _ _ _ => N9
        refine seg_execs_nil ?_
        refine seg_again rfl (ih (os.length - (i + 1)) _ _ _ (by omega) ⟨i + 1, false, _, old', cl2, rfl, by omega, rfl, hend, ?_, ⟨_, _, rfl⟩, F9, rfl, PN.sub N9 (fun q hq => .tail _ (.tail _ hq)), cov2, hcl2, hoe _ (N9 _ (.head _)).1, hoit _ (N9 _ (.tail _ (.head _))).1⟩)
        exact (idx_of hdrop).2
    | false =>
      rw [escItems] at hdrop ⊢
      rw [escEnd] at hend
      refine seg_execs_cons (seg_If ?_)
      iterate 3 walk1
      rw [if_neg Bool.false_ne_true]
      refine seg_execs_cons (seg_If ?_)
      iterate 4 walk1
      have hcmp : ((⟨#[c]⟩ : Str) == Str.ofString "\\") = decide (c = 92) := by
        rw [show Str.ofString "\\" = ⟨#[92]⟩ from by decide]
        by_cases h : c = 92 <;> simp [h]
      rw [hcmp]
      by_cases hc92 : c = 92
      · rw [decide_eq_true hc92] at hend ⊢
        rw [if_pos hc92] at hdrop ⊢
        iterate 2 walk1
        refine seg_execs_cons (seg_exec ?_)
        iterate 3 walk1
        rename Fr _ _ _ _ => F9
        rename News _ _ _ _ => N9
        refine seg_execs_nil ?_
        refine seg_execs_nil ?_
        refine seg_again rfl (ih (os.length - (i + 1)) _ _ _ (by omega) ⟨i + 1, true, _, old', cl, rfl, by omega, rfl, hend, hdrop, ⟨_, _, rfl⟩, F9, rfl, PN.sub N9 (fun q hq => .tail _ (.tail _ hq)), cov, hcl, hoe _ (N9 _ (.head _)).1, hoit _ (N9 _ (.tail _ (.head _))).1⟩)
      · rw [decide_eq_false hc92] at hend ⊢
        rw [if_neg hc92] at hdrop ⊢
        rw [List.length_cons] at hdrop ⊢
        iterate 2 walk1
        refine seg_execs_cons (seg_Expr_Yield rfl rfl rfl ?_)
        iterate 7 walk1
        rename_i T2 h8 F8 N8 l8
        have hT2 : @LT.lt Nat _ (sz + 1) T2 := l8.1
        obtain ⟨oC, hoC, hCn⟩ := LCg.ns_obj F8.ns
        intro kap hkap
        refine ⟨(i, [c]), T2, _, [(C, oC), (sz + 1, oe), (sz, oit)], ?_, rfl, (N8 _ (.head _)).1, by omega, ?_, since_of F8 (PN.sub N8 fun q hq => .tail _ (.tail _ (.tail _ hq))) cov, ?_, fun s'' hk'' hl'' hgl => hkap .none s'' ?_⟩
        · exact (idx_of hdrop).1
        · exact ⟨rfl, _, _, _, rfl⟩
        · intro q hq
          simp only [List.mem_cons, List.not_mem_nil, or_false] at hq
          rcases hq with rfl | rfl | rfl
          · exact ⟨hoC, Nat.le_refl _⟩
          · exact ⟨(N8 _ (.tail _ (.head _))).1, by show @LE.le Nat _ C (sz + 1); omega⟩
          · exact ⟨(N8 _ (.tail _ (.tail _ (.head _)))).1, by show @LE.le Nat _ C sz; omega⟩
        · dsimp only
          have F' : Fr hb C s''.heap _ := ⟨hCn.ns (hgl (C, oC) (.head _)), hk'', hCb⟩
          obtain ⟨cl2, N2, cov2, hcl2⟩ := cov_make (C := C) (lo := lo) hk''
          have N' := pair_front (hgl (sz + 1, oe) (.tail _ (.head _))) (hgl (sz, oit) (.tail _ (.tail _ (.head _)))) (Nat.ne_of_gt (by omega)) (Nat.ne_of_gt (by omega)) (hhb _ (by omega)) (hhb _ (by omega)) N2
          refine seg_execs_nil ?_
          refine seg_execs_nil ?_
          refine seg_execs_nil ?_
          exact seg_again rfl (ih (os.length - (i + 1)) _ _ _ (by omega) ⟨i + 1, false, _, old', cl2, rfl, by omega, rfl, hend, (idx_of hdrop).2, ⟨_, _, rfl⟩, F', rfl, N2, cov2, hcl2, hoe _ (N' _ (.head _)).1, hoit _ (N' _ (.tail _ (.head _))).1⟩)
  · intro h2 tk2 hge F' N'
    have hil : i = os.length := Nat.le_antisymm hi (by simpa using hge)
    subst hil
    rw [List.drop_length] at hend hdrop ⊢
    have hesc : esc = false := hend
    subst hesc
    rw [names1 hm] at F'
    rw [show escItems [] os.length false = [] from rfl, List.length_nil] at *
    refine seg_again rfl ?_
    refine seg_leaf (.ok .next) ?_
    refine seg_execs_cons (seg_If ?_)
    iterate 3 walk1
    rw [if_neg Bool.false_ne_true]
    rename Fr _ _ _ _ => F9
    rename News _ _ _ _ => N9
    refine seg_execs_nil ?_
    refine seg_execs_nil ?_
    exact seg_end (.ok (.ret .none)) ⟨rfl, rfl, since_of F9 N9 cov⟩

-- S6
theorem strip_spec {w : World} {A : Around} {E : Value → Shared → Prop} {s : Shared} {p : Program} {loose : List Str} {mg mb : Str → Option Value} {Q : Value → Shared → Prop} (G : Gd w p loose mg mb s.heap) (hdp : A.depth < 800)
  (hh : A.handled = none) {os : List Nat} {t : Tok} (hasc : ∀ c ∈ os, c < 128) (hsz : os.length ≤ 500) (hend : escEnd os false = false)
  (hQ : ∀ h' g tk t, Keep s.heap h' → (g = s.gens ∨ g = s.gens.push .finished) → Q (.str ⟨(stripOf os).toArray⟩ t) { s with heap := h', gens := g, toks := tk }) :
  wpAny (model PySem.Challenge.rw_wf0006_01.prog w) A (call (.ref 28) [.str ⟨os.toArray⟩ t]) Q E s := by
  refine enter [("addr", .str ⟨os.toArray⟩ t)] G (Nat.lt_trans hdp (by decide)) rfl rfl rfl (locs rfl) (fun h₁ F' => ?_)
  have X' := G.k
  have T' := G.t
  have N' : News s.heap s.heap.objs.size h₁ [] := News.nil
  (try dsimp only)
  iterate 6 walk1
  have hq1 : (Str.ofString "\"") = ⟨#[34]⟩ := by decide
  have hfound : (!(Builtin.Str.occurrences ⟨os.toArray⟩ (Str.ofString "\"") 0 (Str.length ⟨os.toArray⟩) 1).isEmpty) = decide (34 ∈ os) := by
    rw [hq1, StrLaws.found_one]
  rw [hfound]
  by_cases h34 : 34 ∈ os
  · rw [decide_eq_true h34]
    iterate 18 walk1
    rename_i rl _ _ _ F9 N9
    iterate 2 walk1
    refine wpAny_For ?_
    iterate 5 walk1
    rename Fr _ _ _ _ => F9
    rename News _ _ _ _ => N9
    refine Calls.spliced_nil ?_
    refine ⟨G.k.keeps F9.keep, ?_⟩
    have hdp' : A.depth + 1 < 900 := by omega
    refine enterG (hb := s.heap) [("addr", .str ⟨os.toArray⟩ t)] G F9.keep (Nat.lt_trans (show A.depth + 1 < 900 from hdp') (by decide)) rfl rfl rfl (locs rfl) fun h2 tk2 hk2 hns hgen hsz2 => ?_
    have F2 := F9.keeps hk2
    have N2 := N9.grown hk2
    have hLlt : @LT.lt Nat _ s.heap.objs.size _ := F9.ns.lt
    have hrl : @LT.lt Nat _ rl _ := Heap.lt_size (N9 _ (.head _)).1
    dsimp only at hns hgen hsz2 hLlt hrl ⊢
    refine wpAny_pyIter_gen hgen ?_
    refine For_gen (Item := EscItem) (items := escItems os 0 false) (fun j m news => ∃ st op res rs n, stripLoop os ((escItems os 0 false).drop j) st op res = stripLoop os (escItems os 0 false) 0 none [] ∧ (∃ t, m "start" = some (.int ((st : Nat) : Int) t)) ∧ OpIs (m "open_pos") op ∧ m "result" = some (.ref rl) ∧ m "addr" = some (.str ⟨os.toArray⟩ t) ∧
      news = [(rl, W.listOf rs.toArray n)] ∧ StrsAre rs (res.map fun x => ⟨x.toArray⟩) ∧ res.length ≤ j ∧ (∀ x ∈ res, x.length ≤ os.length) ∧ st ≤ os.length ∧ (∀ x ∈ (escItems os 0 false).drop j, st ≤ x.1) ∧ ∀ p, op = some p → st ≤ p ∧ p ≤ os.length) (by exact hh) (Nat.lt_trans (show A.depth + 1 < 900 from hdp') (by decide)) G.t.nolimit rfl hgen hLlt (Nat.lt_succ_self _) (Nat.lt_succ_self _) F2 N2 ?_ hns (Nat.le_of_eq hsz2.symm) ?_ ?_ ?_ ?_
    · intro q hq
      rcases List.mem_singleton.mp hq with rfl
      exact hrl
    · rintro s' hk hns' ⟨oa, hoa⟩
      exact esc_seg G (show A.depth + 1 < 900 from hdp') (by exact hh) hasc hsz hend (Nat.le_of_lt hLlt) (Nat.lt_succ_self _) rfl rfl s' hk hns' hoa
    · exact ⟨0, none, [], [], 0, rfl, ⟨_, rfl⟩, rfl, rfl, rfl, rfl, .nil, Nat.le_refl _, (fun _ h => nomatch h), Nat.zero_le _, fun _ _ => Nat.zero_le _, fun _ h => nomatch h⟩
    · rintro j ⟨pos, ch⟩ T o m₁ news₁ more h tk g hx ⟨hoc, t1, t2, n1, hod⟩ ⟨st, op, res, rs, n, hloop, ⟨ts, hms⟩, hmo, hmr, hma, rfl, hrs, hrl', hrb, hstl, hall, hops⟩ F' N' hTm hnc hmc
      dsimp only at hod
      have hcmp : ((⟨ch.toArray⟩ : Str) == Str.ofString "\"") = decide (ch = [34]) := by
        rw [hq1]
        by_cases h : ch = [34] <;> simp [h]
      have hdrop : (escItems os 0 false).drop j = (pos, ch) :: (escItems os 0 false).drop (j + 1) := by
        obtain ⟨hjl, hje⟩ := List.getElem?_eq_some_iff.mp hx
        rw [List.drop_eq_getElem_cons hjl, hje]
      rw [hdrop] at hloop hall
      have hpos := esc_range os 0 false (pos, ch) (List.mem_of_getElem? hx)
      have hlater : ∀ x ∈ (escItems os 0 false).drop (j + 1), pos < x.1 := by
        have := (esc_pair os 0 false).sublist (List.drop_sublist j _)
        rw [hdrop, List.pairwise_cons] at this
        exact this.1
      have hst : st ≤ pos := hall (pos, ch) (.head _)
      have hlt : pos < os.length := by simpa using hpos.2
      have hTup : IsTup h T #[.int (pos : Int) t1, .str ⟨ch.toArray⟩ t2] := ⟨o, (N' (T, o) (List.mem_append_right _ hTm)).1, hoc, n1, hod⟩
      rcases op with _ | p0
      · replace hmo : m₁ "open_pos" = some .none := hmo
        rw [names4 hms hmo hmr hma] at F'
        refine unpackN_ F' N' hTup (by exact hh) rfl rfl fun h3 F' N' => ?_
        iterate 14 walk1
        rw [hcmp]
        by_cases hc : ch = [34]
        · rw [decide_eq_true hc]
          iterate 18 walk1
          rename Fr _ _ _ _ => F9
          rename News _ _ _ _ => N9
          refine ⟨rfl, _, _, _, _, rfl, F9, N9, hnc, st, some pos, res, rs, n, ?_, ⟨_, rfl⟩, ⟨_, rfl⟩, rfl, rfl, rfl, hrs, by omega, hrb, hstl, fun x hx => hall x (.tail _ hx), ?_⟩
          · rw [← hloop, stripLoop, if_pos hc]
          · rintro p ⟨⟩; omega
        · rw [decide_eq_false hc]
          iterate 5 walk1
          rename Fr _ _ _ _ => F9
          rename News _ _ _ _ => N9
          refine ⟨rfl, _, _, _, _, rfl, F9, N9, hnc, st, none, res, rs, n, ?_, ⟨_, rfl⟩, rfl, rfl, rfl, rfl, hrs, by omega, hrb, hstl, fun x hx => hall x (.tail _ hx), fun _ h => nomatch h⟩
          rw [← hloop, stripLoop, if_neg hc]
      · obtain ⟨top, hmo⟩ := hmo
        rw [names4 hms hmo hmr hma] at F'
        refine unpackN_ F' N' hTup (by exact hh) rfl rfl fun h3 F' N' => ?_
        iterate 14 walk1
        rw [hcmp]
        by_cases hc : ch = [34]
        · rw [decide_eq_true hc]
          iterate 19 walk1
          · rename ((st : Nat) : Int) ≠ _ => hne
            obtain ⟨hp1, hp2⟩ := hops p0 rfl
            iterate 17 walk1
            rename Fr _ _ _ _ => F9
            rename News _ _ _ _ => N9
            rw [slice_mid hp1 hp2]
            have hrsl : rs.length ≤ j := by rw [strs_length hrs, List.length_map]; exact hrl'
            have hjl : j < 501 := by
              have h1 := (List.getElem?_eq_some_iff.mp hx).1
              have h2 := esc_length os 0 false
              omega
            refine app_own F9 N9 (own := more) ?_ (by omega) fun h8 n8 F8 N8 => ?_
            · intro q hq e
              have h1 := hmc q hq
              have h2 : @LT.lt Nat _ rl _ := hrl
              rw [e] at h1
              exact Nat.lt_irrefl _ (Nat.lt_of_lt_of_le h2 h1)
            iterate 16 walk1
            rename Fr _ _ _ _ => F9
            rename News _ _ _ _ => N9
            refine ⟨rfl, _, _, _, [(rl, _)], rfl, F9, N9, ?_, pos + 1, none, res ++ [cut os st p0], _, n8, ?_, ⟨_, by rfl⟩, rfl, rfl, rfl, rfl, ?_, by rw [List.length_append, List.length_singleton]; omega, ?_, by omega, hlater, fun _ h => nomatch h⟩
            · intro q hq
              rcases List.mem_singleton.mp hq with rfl
              exact hrl
            · rw [← hloop, stripLoop, if_pos hc]
              rw [if_neg (by omega)]
            · rw [List.map_append]
              exact strs_snoc _ _ hrs
            · intro x hx
              rcases List.mem_append.mp hx with hx | hx
              · exact hrb x hx
              · rw [List.mem_singleton.mp hx, cut, List.length_take, List.length_drop]; omega
          · rename ((st : Nat) : Int) = _ => hne
            iterate 15 walk1
            rename Fr _ _ _ _ => F9
            rename News _ _ _ _ => N9
            refine ⟨rfl, _, _, _, _, rfl, F9, N9, hnc, pos + 1, none, res, rs, n, ?_, ⟨_, by rfl⟩, rfl, rfl, rfl, rfl, hrs, by omega, hrb, by omega, hlater, fun _ h => nomatch h⟩
            rw [← hloop, stripLoop, if_pos hc]
            rw [if_pos (by omega)]
        · rw [decide_eq_false hc]
          iterate 5 walk1
          rename Fr _ _ _ _ => F9
          rename News _ _ _ _ => N9
          refine ⟨rfl, _, _, _, _, rfl, F9, N9, hnc, st, some p0, res, rs, n, ?_, ⟨_, rfl⟩, ⟨_, rfl⟩, rfl, rfl, rfl, hrs, by omega, hrb, hstl, fun x hx => hall x (.tail _ hx), hops⟩
          rw [← hloop, stripLoop, if_neg hc]
    · rintro h tk m₁ news₁ F' N' ⟨st, op, res, rs, n, hloop, ⟨ts, hms⟩, hmo, hmr, hma, rfl, hrs, hrl', hrb, hstl, hall, hops⟩
      rw [names4 hms (rfl : m₁ "open_pos" = _) hmr hma] at F'
      iterate 10 walk1
      have hlen : Str.length ⟨os.toArray⟩ = os.length := by simp [Str.length]
      refine len_str (by rw [hlen]; omega) ?_
      rw [hlen]
      have hesc := esc_length os 0 false
      have hrsl : rs.length = res.length := by rw [strs_length hrs, List.length_map]
      have hloop' : (st, res) = stripLoop os (escItems os 0 false) 0 none [] := by
        rw [← hloop, List.drop_length, stripLoop]
      have hres : stripOf os = (res ++ (if st < os.length then [os.drop st] else [])).flatten := by
        rw [stripOf, if_pos h34, stripEnd, ← hloop']
      iterate 3 walk1
      · rename ((st : Nat) : Int) < _ => hlt
        iterate 17 walk1
        rename Fr _ _ _ _ => F9
        rename News _ _ _ _ => N9
        rw [slice_end hstl]
        refine app_own F9 N9 (own := []) (fun _ h => nomatch h) (by omega) fun h8 n8 F8 N8 => ?_
        iterate 11 walk1
        rename Fr _ _ _ _ => F9
        rename News _ _ _ _ => N9
        have hys : ∀ u, StrsAre (rs ++ [Value.str ⟨(os.drop st).toArray⟩ u]) ((res ++ [os.drop st]).map fun x => ⟨x.toArray⟩) := by
          intro u
          rw [List.map_append]
          exact strs_snoc _ _ hrs
        have hwt : ((((res ++ [os.drop st]).map fun x => (⟨x.toArray⟩ : Str)).map (·.length)).sum + ((res ++ [os.drop st]).map fun x => (⟨x.toArray⟩ : Str)).length ≤ 1048576) := by
          rw [List.map_map]
          have h1 := sum_le (fun x : List Nat => (Str.length ⟨x.toArray⟩)) 500 (res ++ [os.drop st]) (fun x hx => by
            show x.toArray.size ≤ 500
            rw [List.size_toArray]
            rcases List.mem_append.mp hx with hx | hx
            · have := hrb x hx; omega
            · rw [List.mem_singleton.mp hx, List.length_drop]; omega)
          have h2 : (res ++ [os.drop st]).length ≤ 501 := by rw [List.length_append, List.length_singleton]; omega
          rw [List.length_map]
          have h3 : (res ++ [os.drop st]).length * 500 ≤ 501 * 500 := Nat.mul_le_mul_right _ h2
          exact Nat.le_trans (Nat.add_le_add (Nat.le_trans h1 h3) h2) (by decide)
        refine join_listW (News.isList N9 (.head _)) (hys _) (by decide) hwt fun t' k => ?_
        rw [show (Str.ofString "") = ⟨#[]⟩ from by decide, join_flat]
        dsimp only
        have q := fun h' g tk t hk hg => hQ h' g tk t hk hg
        rw [hres, if_pos (by omega)] at q
        exact q _ _ _ _ F9.keep (.inr rfl)
      · rename ¬ ((st : Nat) : Int) < _ => hlt
        iterate 11 walk1
        rename Fr _ _ _ _ => F9
        rename News _ _ _ _ => N9
        have hwt : (((res.map fun x => (⟨x.toArray⟩ : Str)).map (·.length)).sum + (res.map fun x => (⟨x.toArray⟩ : Str)).length ≤ 1048576) := by
          rw [List.map_map]
          have h1 := sum_le (fun x : List Nat => (Str.length ⟨x.toArray⟩)) 500 res (fun x hx => by
            show x.toArray.size ≤ 500
            rw [List.size_toArray]
            have := hrb x hx; omega)
          have h2 : res.length ≤ 501 := by omega
          rw [List.length_map]
          have h3 : res.length * 500 ≤ 501 * 500 := Nat.mul_le_mul_right _ h2
          exact Nat.le_trans (Nat.add_le_add (Nat.le_trans h1 h3) h2) (by decide)
        refine join_listW (News.isList N9 (.head _)) hrs (by decide) hwt fun t' k => ?_
        rw [show (Str.ofString "") = ⟨#[]⟩ from by decide, join_flat]
        dsimp only
        have q := fun h' g tk t hk hg => hQ h' g tk t hk hg
        rw [hres, if_neg (by omega), List.append_nil] at q
        exact q _ _ _ _ F9.keep (.inr rfl)
  · rw [decide_eq_false h34]
    iterate 6 walk1
    rename Fr _ _ _ _ => F9
    dsimp only
    have q := fun h' tk t hk => hQ h' s.gens tk t hk (.inl rfl)
    rw [stripOf, if_neg h34] at q
    exact q _ _ _ F9.keep

-- C2
theorem compTurn_inner (g0 : Comprehension) (elt t1 iter1 : Expr) (scope : Scope) (pos : Pos) (it acc : Value) (env : Env) :
    compTurn (.ListComp elt [g0, ⟨t1, iter1, [], 0⟩] scope pos) 1 it acc env = (standAt iter1.pos >>= fun _ => pyNext it >>= fun r => match r with
      | none => pure (.done .next)
      | some v => letOwnedTupleGo t1 it v >>= fun _ => assign t1 env v >>= fun _ =>
        (eval elt env >>= fun x => call (.builtin "list.append") [acc, x] >>= fun _ => pure ()) >>= fun _ =>
          again (.compLoop (.ListComp elt [g0, ⟨t1, iter1, [], 0⟩] scope pos) 1 it acc env)) := by rfl

theorem compTurn_outer (elt t0 iter0 c0 t1 iter1 : Expr) (scope : Scope) (pos : Pos) (it acc : Value) (env : Env) :
    compTurn (.ListComp elt [⟨t0, iter0, [c0], 0⟩, ⟨t1, iter1, [], 0⟩] scope pos) 0 it acc env = (do
      standAt iter0.pos
      match ← pyNext it with
      | none => pure (.done .next)
      | some v =>
        letOwnedTupleGo t0 it v
        assign t0 env v
        let mut ok := true
        for c in [c0] do
          if ok then ok ← isTrue c env (eval c env)
        if ok then
          let x ← eval iter1 env
          standAt iter1.pos
          let x ← foldedSetIterable iter1 env x
          let _ ← runOwn (.compStart (.ListComp elt [⟨t0, iter0, [c0], 0⟩, ⟨t1, iter1, [], 0⟩] scope pos) 1 (← holding [x] (pyIter x)) acc env) env
        again (.compLoop (.ListComp elt [⟨t0, iter0, [c0], 0⟩, ⟨t1, iter1, [], 0⟩] scope pos) 0 it acc env)) := by rfl

def Off (h₀ : Heap) (L : Addr) (news : List (Addr × Obj)) (b : Addr) : Prop := h₀.get? b = none ∧ b ≠ L ∧ ∀ q ∈ news, q.1 ≠ b
section
variable {prog : Program} {w : World} {A : Around} {E : Value → Shared → Prop} {s : Shared} {env : Env} {h₀ : Heap} {L : Addr} {m : Str → Option Value} {news : List (Addr × Obj)}

theorem fn_keep {wr : List Addr} (off : ∀ b ∈ wr, Off h₀ L news b) {h h' : Heap} (F : Fr h₀ L h m) (N : News h₀ L h news) (hk : ∀ b o, b ∉ wr → h.get? b = some o → h'.get? b = some o) : Fr h₀ L h' m ∧ News h₀ L h' news := by
  refine ⟨⟨F.ns.at' fun o e => hk L o (fun hm => (off L hm).2.1 rfl) e, fun b o e => hk b o (fun hm => ?_) (F.keep b o e), F.above⟩, fun q hq => ⟨hk _ _ (fun hm => (off _ hm).2.2 q hq rfl) (N q hq).1, (N q hq).2⟩⟩
  rw [(off b hm).1] at e; cases e

theorem comp2_in {elt : Expr} {g0 : Comprehension} {y : Str} {py : Pos} {iter1 : Expr} {scope : Scope} {pos : Pos} {cenv : Env} {R : Result → Shared → Prop} {it D l : Addr} {us : Array Value} {zs0 : List Value} {m0 : Str → Option Value}
    (hh : A.handled = none) (hy : cenv.kindOf y = some .local) (hp : (cenv.scope.kind == .class || (cenv.scope.kind == .module && cenv.locals != cenv.globals)) = false)
    (n1 : it ≠ D) (n2 : it ≠ cenv.locals) (n3 : D ≠ cenv.locals) (n4 : l ≠ it) (n5 : l ≠ D) (n6 : l ≠ cenv.locals) (oC : Off h₀ L news cenv.locals) (oD : Off h₀ L news D) (oI : Off h₀ L news it)
    (H : Heap → Prop) (hH : ∀ h h', H h → (∀ b o, b ≠ cenv.locals → b ≠ D → b ≠ it → h.get? b = some o → h'.get? b = some o) → H h') (K : Nat → List Value → Prop) (hKl : ∀ j zs, K j zs → zs.length ≤ 1000)
    (elt_ok : ∀ j u m₂ oc h tk (E' : Value → Shared → Prop), us[j]? = some u → Fr h₀ L h m → LCg.NsObj oc m₂ → News h₀ L h ((cenv.locals, oc) :: news) → m₂ y = some u →
      wpAny (model prog w) A (eval elt cenv) (fun v s' => (∃ tk', s' = { s with heap := h, toks := tk' }) ∧ ∀ zs, K j zs → K (j + 1) (zs ++ [v])) E' { s with heap := h, toks := tk })
    (fin : ∀ h tk m₂ zs, Fr h₀ L h m → News h₀ L h news → H h → h.Ns cenv.locals m₂ → h.get? D = some (LCg.lst zs) → K us.size zs → R (.ok .next) { s with heap := h, toks := tk })
    (F : Fr h₀ L s.heap m) (N : News h₀ L s.heap news) (hHs : H s.heap) (hns : s.heap.Ns cenv.locals m0) (hD : s.heap.get? D = some (LCg.lst zs0)) (hK : K 0 zs0) (hit : s.heap.IsListIter it l 0) (hl : s.heap.IsList l us) :
    codeAny (model prog w) A (.compLoop (.ListComp elt [g0, ⟨.Name y py, iter1, [], 0⟩] scope pos) 1 (.ref it) (.ref D) cenv) R s := by
  refine codeAny_loop rfl (fun k s' => ∃ j h tk m₂ zs, k = us.size - j ∧ j ≤ us.size ∧ s' = { s with heap := h, toks := tk } ∧ Fr h₀ L h m ∧ News h₀ L h news ∧ H h ∧ h.Ns cenv.locals m₂ ∧ h.get? D = some (LCg.lst zs) ∧ K j zs ∧ h.IsListIter it l j ∧ h.IsList l us) ?_ us.size
    ⟨0, s.heap, s.toks, m0, zs0, rfl, Nat.zero_le _, rfl, F, N, hHs, hns, hD, hK, hit, hl⟩
  rintro k s' ⟨j, h, tk, m₂, zs, rfl, hj, rfl, F, N, hHs, hns, hD, hK, hit, hl⟩
  show wpAny _ A ((compTurn (.ListComp elt [g0, ⟨.Name y py, iter1, [], 0⟩] scope pos) 1 (.ref it) (.ref D) cenv).onRaise (fun x => do noteFrame x cenv; theTreesLotGoes x)) _ _ _
  refine wpAny_noted ?_
  rw [compTurn_inner]
  refine wpAny_bind (wpAny_standAt (wpAny_bind ?_))
  rcases Nat.lt_or_ge j us.size with hlt | hge
  · refine wpAny_pyNext_list_item hit hl (x := us[j]) (by simp [hlt]) fun h1 hit1 hs1 => ?_
    refine wpAny_bind (wpAny_of_eq (rfl : letOwnedTupleGo (.Name y py) (.ref it) us[j] = pure ()) ?_)
    refine wpAny_bind (wpAny_assign_Name (wpAny_storeName_local hy (hns.at' fun o e => hs1.extBut _ o (Ne.symm n2) e) (fun h2 hn2 hs2 => ?_) hp))
    have hk12 : ∀ b o, b ≠ cenv.locals → b ≠ it → h.get? b = some o → h2.get? b = some o := fun b o b1 b2 e => hs2.extBut b o b1 (hs1.extBut b o b2 e)
    obtain ⟨F2, N2⟩ := fn_keep (wr := [cenv.locals, it]) (fun b hb => by
      rcases List.mem_cons.mp hb with rfl | hb
      · exact oC
      · rw [List.mem_singleton.mp hb]; exact oI) F N fun b o hb e => hk12 b o (fun q => hb (by simp [q])) (fun q => hb (by simp [q])) e
    obtain ⟨oc, hoc, hocn⟩ := LCg.ns_obj hn2
    have N2' : News h₀ L h2 ((cenv.locals, oc) :: news) := fun q hq => by
      rcases List.mem_cons.mp hq with rfl | hq
      · exact ⟨hoc, oC.2.1, oC.1⟩
      · exact N2 q hq
    refine wpAny_bind (wpAny_bind (wpAny_mono (elt_ok j us[j] _ oc h2 _ _ (by simp [hlt]) F2 hocn N2' (by simp)) (fun v s3 h3 => ?_) fun _ _ e => e))
    obtain ⟨⟨tk3, rfl⟩, hK3⟩ := h3
    have hD2 : h2.get? D = some (LCg.lst zs) := hk12 D _ n3 (Ne.symm n1) hD
    refine wpAny_bind (append_at (hsz := by show zs.toArray.size ≤ sizeLine; rw [List.size_toArray]; exact Nat.le_trans (hKl _ _ hK) (by decide)) hD2 fun h4 hs4 hD4 => ?_)
    obtain ⟨F4, N4⟩ := fn_keep (wr := [D]) (fun b hb => by rw [List.mem_singleton.mp hb]; exact oD) F2 N2 fun b o hb e => hs4.extBut b o (by simpa using hb) e
    have hk4 : ∀ b o, b ≠ cenv.locals → b ≠ D → b ≠ it → h.get? b = some o → h4.get? b = some o := fun b o b1 b2 b3 e => hs4.extBut b o b2 (hk12 b o b1 b3 e)
    exact wpAny_pure (wpAny_pure ⟨rfl, us.size - (j + 1), by omega, j + 1, h4, tk3, _, zs ++ [v], rfl, hlt, rfl, F4, N4, hH h h4 hHs hk4, hn2.sameBut hs4 (Ne.symm n3), hD4.trans (congrArg some (LCg.lst_snoc zs v)), hK3 _ hK, (hit1.at fun o e => hs4.extBut _ o n1 (hs2.extBut _ o n2 e)), hl.at fun o e => hk4 l o n6 n5 n4 e⟩)
  · obtain rfl : j = us.size := Nat.le_antisymm hj hge
    refine wpAny_pyNext_list_end hh hit hl (by simp) fun h1 hs1 => wpAny_pure ?_
    obtain ⟨F1, N1⟩ := fn_keep (wr := [it]) (fun b hb => by rw [List.mem_singleton.mp hb]; exact oI) F N fun b o hb e => hs1 b o (by simpa using hb) e
    exact fin h1 tk m₂ zs F1 N1 (hH h h1 hHs fun b o _ _ b3 e => hs1 b o b3 e) (hns.at' fun o e => hs1 _ o (Ne.symm n2) e) (hs1 D _ (Ne.symm n1) hD) hK

theorem compStart_inner {elt t1 iter1 : Expr} {g0 : Comprehension} {scope : Scope} {pos : Pos} {it acc : Value} {cenv : Env} {R : Result → Shared → Prop}
    (h0 : codeAny (model prog w) A (.compLoop (.ListComp elt [g0, ⟨t1, iter1, [], 0⟩] scope pos) 1 it acc cenv) R s)
    (h : wpAny (model prog w) A (pyIter it) (fun it' s' => codeAny (model prog w) A (.compLoop (.ListComp elt [g0, ⟨t1, iter1, [], 0⟩] scope pos) 1 it' acc cenv) R s') (notedBy (model prog w) A cenv fun x s' => R (.error x) s') s) :
    codeAny (model prog w) A (.compStart (.ListComp elt [g0, ⟨t1, iter1, [], 0⟩] scope pos) 1 it acc cenv) R s := by
  refine codeAny_of_tree ?_
  show wpAny _ _ ((compStart (.ListComp elt [g0, ⟨t1, iter1, [], 0⟩] scope pos) 1 it acc cenv).onRaise (fun x => do noteFrame x cenv; standAt theWindowsPlace)) _ _ s
  refine wpAny_notedAt ?_
  unfold compStart
  show wpAny _ _ (ask >>= _) _ _ s
  refine wpAny_bind (wpAny_askSetting (wpAny_ite ?_))
  split
  · first
      | exact wpAny_bind (wpAny_pure (wpAny_pure (And.intro rfl h0)))
      | exact wpAny_pure (And.intro rfl h0)
  · first
      | exact wpAny_bind (wpAny_rule (wpAny_bind (wpAny_standAt (wpAny_bind (wpAny_mono h (fun it' s' h' => wpAny_pure (And.intro rfl h')) fun _ _ x => x)))))
      | (refine wpAny_bind (wpAny_rule ?_); show wpAny _ _ (standAt iter1.pos >>= _) _ _ s; exact wpAny_bind (wpAny_standAt (wpAny_bind (wpAny_mono h (fun it' s' h' => wpAny_pure (And.intro rfl h')) fun _ _ x => x))))

theorem start_both {elt t1 iter1 : Expr} {g0 : Comprehension} {scope : Scope} {pos : Pos} {it l : Addr} {j : Nat} {acc : Value} {cenv : Env} {R : Result → Shared → Prop} (hit : s.heap.IsListIter it l j)
    (h : codeAny (model prog w) A (.compLoop (.ListComp elt [g0, ⟨t1, iter1, [], 0⟩] scope pos) 1 (.ref it) acc cenv) R s) : codeAny (model prog w) A (.compStart (.ListComp elt [g0, ⟨t1, iter1, [], 0⟩] scope pos) 1 (.ref it) acc cenv) R s :=
  compStart_inner h (wpAny_pyIter_listiter hit h)

theorem comp2_out {elt ct iter0 : Expr} {xa xb y : Str} {pa pb tp py pxa : Pos} {tk0} {scope : Scope} {cl : List (Str × Addr)} {C : Addr} {pos : Pos} {R : Result → Shared → Prop} {z D : Addr} {fp wr : List Addr} {n : Nat} {Pt : Nat → Array Value → Prop} {St : Nat → Heap → Prop} {Mid : Nat → Addr → Heap → Prop} {m0 : Str → Option Value}
    (W : WalksT prog w A z fp wr n Pt St Mid) (hh : A.handled = none) (hkind : scope.kind = .function) (hxa : scope.names.lookup xa = some .local) (hxb : scope.names.lookup xb = some .local) (hy : scope.names.lookup y = some .local) (hab : xa ≠ xb) (hdb : (xa == ("__debug__" : Str)) = false)
    (oW : ∀ b ∈ wr, Off h₀ L news b) (oC : Off h₀ L news C) (oD : Off h₀ L news D) (hCD : D ≠ C) (hCf : C ∉ fp) (hDf : D ∉ fp) (hfl : ∀ i h, St i h → ∀ b ∈ fp, b < h.objs.size)
    (v0s v1s : Nat → Value) (hPt : ∀ i vals, Pt i vals → vals = #[v0s i, v1s i]) (inner : Nat → Array Value) (hinner : ∀ i, i < n → ∃ a, v0s i = .ref a ∧ LCg.SrcAt h₀ a (inner i) news) (p : Nat → Bool) (K : Nat → Nat → List Value → Prop) (hKl : ∀ i j zs, K i j zs → zs.length ≤ 1000)
    (test : ∀ i oc m₂ h tk (E' : Value → Shared → Prop), i < n → Fr h₀ L h m → LCg.NsObj oc m₂ → News h₀ L h ((C, oc) :: news) → m₂ xa = some (v0s i) → m₂ xb = some (v1s i) →
      wpAny (model prog w) A (isTrue ct (compEnvC scope cl C env) (eval ct (compEnvC scope cl C env))) (fun ok s' => ok = p i ∧ ∃ tk', s' = { s with heap := h, toks := tk' }) E' { s with heap := h, toks := tk })
    (skip : ∀ i zs, i < n → p i = false → K i 0 zs → K (i + 1) 0 zs) (ends : ∀ i zs, i < n → p i = true → K i (inner i).size zs → K (i + 1) 0 zs)
    (elt_ok : ∀ i j u oc m₂ h tk (E' : Value → Shared → Prop), i < n → p i = true → (inner i)[j]? = some u → Fr h₀ L h m → LCg.NsObj oc m₂ → News h₀ L h ((C, oc) :: news) → m₂ y = some u →
      wpAny (model prog w) A (eval elt (compEnvC scope cl C env)) (fun v s' => (∃ tk', s' = { s with heap := h, toks := tk' }) ∧ ∀ zs, K i j zs → K i (j + 1) (zs ++ [v])) E' { s with heap := h, toks := tk })
    (fin : ∀ h tk m₂ zs, Fr h₀ L h m → News h₀ L h news → h.Ns C m₂ → h.get? D = some (LCg.lst zs) → K n 0 zs → R (.ok .next) { s with heap := h, toks := tk })
    (F : Fr h₀ L s.heap m) (N : News h₀ L s.heap news) (hst : St 0 s.heap) (hns : s.heap.Ns C m0) (hD : s.heap.get? D = some (LCg.lst [])) (K0 : K 0 0 []) :
    codeAny (model prog w) A (.compLoop (.ListComp elt [⟨.Tuple [.Name xa pa, .Name xb pb] tk0 tp, iter0, [ct], 0⟩, ⟨.Name y py, .Name xa pxa, [], 0⟩] scope pos) 0 (.ref z) (.ref D) (compEnvC scope cl C env)) R s := by
  refine codeAny_loop rfl (fun k s' => ∃ i h tk m₂ zs, k = n - i ∧ i ≤ n ∧ s' = { s with heap := h, toks := tk } ∧ Fr h₀ L h m ∧ News h₀ L h news ∧ St i h ∧ h.Ns C m₂ ∧ h.get? D = some (LCg.lst zs) ∧ K i 0 zs) ?_ n
    ⟨0, s.heap, s.toks, m0, [], rfl, Nat.zero_le _, rfl, F, N, hst, hns, hD, K0⟩
  rintro k s' ⟨i, h, tk, m₂, zs, rfl, hi, rfl, F, N, hst, hns, hD, hK⟩
  have hp : ((compEnvC scope cl C env).scope.kind == .class || ((compEnvC scope cl C env).scope.kind == .module && (compEnvC scope cl C env).locals != (compEnvC scope cl C env).globals)) = false := by simp [compEnvC, relabel, hkind]
  have hCw : C ∉ wr := fun h => hCf (W.sub _ h)
  have hDw : D ∉ wr := fun h => hDf (W.sub _ h)
  show wpAny _ A ((compTurn (.ListComp elt [⟨.Tuple [.Name xa pa, .Name xb pb] tk0 tp, iter0, [ct], 0⟩, ⟨.Name y py, .Name xa pxa, [], 0⟩] scope pos) 0 (.ref z) (.ref D) (compEnvC scope cl C env)).onRaise (fun x => do noteFrame x (compEnvC scope cl C env); theTreesLotGoes x)) _ _ _
  refine wpAny_noted ?_
  rw [compTurn_outer]
  refine wpAny_bind (wpAny_standAt (wpAny_bind ?_))
  rcases Nat.lt_or_ge i n with hlt | hge
  · refine W.item i _ _ _ hlt hst fun T vals h1 tk1 hP hT hTup hMid hk1 => ?_
    obtain rfl := hPt i vals hP
    refine wpAny_bind (W.go _ _ _ i T _ _ _ hMid fun h2 hst2 hk2 => ?_)
    have hTw := W.apart _ _ _ hMid
    obtain ⟨oT, hoT, hcT, nT, hdT⟩ := hTup
    have hk12 : ∀ b o, b ∉ wr → h.get? b = some o → h2.get? b = some o := fun b o hb e => hk2 b o hb (hk1 b o hb e)
    refine wpAny_bind (assign_Tuple_tuple hh ⟨oT, hk2 T oT hTw hoT, hcT, nT, hdT⟩ rfl rfl fun h3 he3 => ?_)
    have hk3 : ∀ b o, h2.get? b = some o → h3.get? b = some o := fun b o e => he3 b o (Nat.ne_of_lt (Heap.lt_size e)) e
    refine assignInOrder_cons (wpAny_assign_Name (wpAny_storeName_local (lookup_relabel_local hxa) (hns.at' fun o e => hk3 _ o (hk12 _ o hCw e)) (fun h4 hn4 hs4 => ?_) hp))
    refine assignInOrder_cons (wpAny_assign_Name (wpAny_storeName_local (lookup_relabel_local hxb) hn4 (fun h5 hn5 hs5 => ?_) hp))
    refine assignInOrder_nil ?_
    have hk5 : ∀ b o, b ≠ C → b ∉ wr → h.get? b = some o → h5.get? b = some o := fun b o b1 b2 e => hs5.extBut b o b1 (hs4.extBut b o b1 (hk3 b o (hk12 b o b2 e)))
    have hst5 : St (i + 1) h5 := W.frame _ _ _ hst2 fun b hb o e => hs5.extBut b o (fun q => hCf (by have q' : b = C := q; rw [← q']; exact hb)) (hs4.extBut b o (fun q => hCf (by have q' : b = C := q; rw [← q']; exact hb)) (hk3 b o e))
    obtain ⟨F5, N5⟩ := fn_keep (wr := C :: wr) (fun b hb => by
      rcases List.mem_cons.mp hb with rfl | hb
      · exact oC
      · exact oW b hb) F N fun b o hb e => hk5 b o (fun q => hb (by simp [q])) (fun q => hb (by simp [q])) e
    have hD5 : h5.get? D = some (LCg.lst zs) := hk5 D _ hCD hDw hD
    obtain ⟨oc, hoc, hocn⟩ := LCg.ns_obj hn5
    have N5' : News h₀ L h5 ((C, oc) :: news) := fun q hq => by
      rcases List.mem_cons.mp hq with rfl | hq
      · exact ⟨hoc, oC.2.1, oC.1⟩
      · exact N5 q hq
    refine wpAny_bind (wpAny_tests_one (wpAny_mono (test i oc _ h5 _ _ hlt F5 hocn N5' (by simp [hab]) (by simp)) (fun ok s6 h6 => ?_) fun _ _ e => e))
    obtain ⟨rfl, tk6, rfl⟩ := h6
    cases hp6 : p i with
    | false =>
      rw [if_neg Bool.false_ne_true]
      exact wpAny_pure ⟨rfl, n - (i + 1), by omega, i + 1, h5, tk6, _, zs, rfl, hlt, rfl, F5, N5, hst5, hn5, hD5, skip i zs hlt hp6 hK⟩
    | true =>
      rw [if_pos rfl]
      obtain ⟨a, hva, hsrc⟩ := hinner i hlt
      refine wpAny_bind (ldVarK hn5 (v := .ref a) (by simp [hab, hva]) ?_ (by simp [compEnvC, relabel, hkind]) (lookup_relabel_local hxa) hdb)
      refine wpAny_bind (wpAny_standAt ?_)
      refine wpAny_bind (wpAny_of_eq (rfl : foldedSetIterable (.Name xa pxa) (compEnvC scope cl C env) (.ref a) = pure (.ref a)) ?_)
      have hl5 := hsrc.list F5.keep N5
      refine wpAny_bind (wpAny_holding (wpAny_pyIter_list hl5 ?_))
      have oI : Off h₀ L news h5.objs.size := ⟨next_is_new F5, fun e => Nat.ne_of_lt F5.ns.lt e.symm, fun q hq e => Nat.ne_of_lt (Heap.lt_size (N5 q hq).1) e⟩
      have hlt_a : a < h5.objs.size := by obtain ⟨_, e, _⟩ := hl5; exact Heap.lt_size e
      have hsrcO : Off h₀ L news a → False := fun x => by
        rcases hsrc with ⟨o, e, _⟩ | ⟨o, hm, _⟩
        · have := x.1; rw [e] at this; cases this
        · exact x.2.2 _ hm rfl
      have hnew : ∀ b o, h5.get? b = some o → b ≠ h5.objs.size := fun b o e => Nat.ne_of_lt (Heap.lt_size e)
      have hkp : ∀ b o, h5.get? b = some o → (h5.push { cls := .type "list_iterator", data := .fields #[.ref a, .int 0 0] }).get? b = some o := fun b o e => Heap.get?_push_of_some _ e
      have hit7 : (h5.push { cls := .type "list_iterator", data := .fields #[.ref a, .int 0 0] }).IsListIter h5.objs.size a 0 := ⟨_, Heap.get?_push_size _ rfl, rfl, rfl⟩
      refine wpAny_bind (wpAny_runOwn (start_both hit7 ?_))
      refine comp2_in (H := fun h => St (i + 1) h) (K := K i) (us := inner i) (l := a) (zs0 := zs) hh (lookup_relabel_local hy) hp (Ne.symm (hnew D _ hD5)) (Ne.symm (hnew C _ hoc)) hCD (Nat.ne_of_lt hlt_a) (fun e => hsrcO (e ▸ oD)) (fun e => hsrcO (e ▸ oC)) oC oD oI
        (fun h h' hS hk => W.frame _ _ _ hS fun b hb o e => hk b o (fun q => hCf (by have q' : b = C := q; rw [← q']; exact hb)) (fun q => hDf (q ▸ hb)) (fun q => Nat.ne_of_lt (hfl _ _ hst5 b hb) q) e) (hKl i)
        (fun j u m₂ oc h tk E' hu F N₁ N₂ hm => elt_ok i j u oc m₂ h tk E' hlt hp6 hu F N₁ N₂ hm) (fun h tk m₂ zs' F N hS hns hD hK' => ?_) (F5.keeps hkp) (N5.grown hkp) (W.frame _ _ _ hst5 fun b hb o e => hkp b o e) (hn5.at' fun o e => hkp _ o e) (hkp D _ hD5) hK hit7 (hl5.push _)
      exact wpAny_pure ⟨rfl, n - (i + 1), by omega, i + 1, h, tk, m₂, zs', rfl, hlt, rfl, F, N, hS, hns, hD, ends i zs' hlt hp6 hK'⟩
  · obtain rfl : i = n := Nat.le_antisymm hi hge
    refine W.done _ _ _ hst fun h1 tk1 hk1 => wpAny_pure ?_
    obtain ⟨F1, N1⟩ := fn_keep oW F N hk1
    exact fin h1 tk1 m₂ zs F1 N1 (hns.at' fun o e => hk1 _ o hCw e) (hk1 D _ hDw hD) hK

theorem comp2_zip {elt ct iter0 : Expr} {xa xb y : Str} {pa pb tp py pxa : Pos} {tk0} {scope : Scope} {cl : List (Str × Addr)} {pos : Pos} {RR : Value → Addr → Result → Shared → Prop} {l1 l2 : Addr} {xs ys : Array Value}
    (hh : A.handled = none) (hcell : ∀ z ∈ scope.names, z.2 ≠ .cell) (hkind : scope.kind = .function) (hxa : scope.names.lookup xa = some .local) (hxb : scope.names.lookup xb = some .local) (hy : scope.names.lookup y = some .local) (hab : xa ≠ xb) (hdb : (xa == ("__debug__" : Str)) = false)
    (F : Fr h₀ L s.heap m) (N : News h₀ L s.heap news) (hl1 : LCg.SrcAt h₀ l1 xs news) (hl2 : LCg.SrcAt h₀ l2 ys news) (inner : Nat → Array Value)
    (hinner : ∀ i v0, xs[i]? = some v0 → ∃ a, v0 = .ref a ∧ LCg.SrcAt h₀ a (inner i) news) (p : Nat → Bool) (K : Nat → Nat → List Value → Prop) (hKl : ∀ i j zs, K i j zs → zs.length ≤ 1000) (K0 : K 0 0 [])
    (test : ∀ i v0 v1 C oc m₂ h tk (E' : Value → Shared → Prop), xs[i]? = some v0 → ys[i]? = some v1 → Fr h₀ L h m → LCg.NsObj oc m₂ → News h₀ L h ((C, oc) :: news) → m₂ xa = some v0 → m₂ xb = some v1 →
      wpAny (model prog w) A (isTrue ct (compEnvC scope cl C env) (eval ct (compEnvC scope cl C env))) (fun ok s' => ok = p i ∧ ∃ tk', s' = { s with heap := h, toks := tk' }) E' { s with heap := h, toks := tk })
    (skip : ∀ i zs, i < min xs.size ys.size → p i = false → K i 0 zs → K (i + 1) 0 zs) (ends : ∀ i zs, i < min xs.size ys.size → p i = true → K i (inner i).size zs → K (i + 1) 0 zs)
    (elt_ok : ∀ i j u C oc m₂ h tk (E' : Value → Shared → Prop), i < min xs.size ys.size → p i = true → (inner i)[j]? = some u → Fr h₀ L h m → LCg.NsObj oc m₂ → News h₀ L h ((C, oc) :: news) → m₂ y = some u →
      wpAny (model prog w) A (eval elt (compEnvC scope cl C env)) (fun v s' => (∃ tk', s' = { s with heap := h, toks := tk' }) ∧ ∀ zs, K i j zs → K i (j + 1) (zs ++ [v])) E' { s with heap := h, toks := tk })
    (fin : ∀ D C h tk m' zs, Fr h₀ L h m → News h₀ L h ((D, LCg.lst zs) :: news) → (∀ q ∈ news, q.1 ≠ D) → h.Ns C m' → Off h₀ L ((D, LCg.lst zs) :: news) C → K (min xs.size ys.size) 0 zs → RR (.ref D) C (.ok .next) { s with heap := h, toks := tk }) :
    wpAny (model prog w) A (call (.type "zip") [.ref l1, .ref l2]) (fun xv s₁ => wpAny (model prog w) A (pyIter xv) (fun it s₂ => wpAny (model prog w) A (newList []) (fun acc s₃ =>
      wpAny (model prog w) A (newFunctionEnv scope env.globals cl [] env.qual none .none (some env)) (fun cenv s₄ =>
        codeAny (model prog w) A (.compStart (.ListComp elt [⟨.Tuple [.Name xa pa, .Name xb pb] tk0 tp, iter0, [ct], 0⟩, ⟨.Name y py, .Name xa pxa, [], 0⟩] scope pos) 0 it acc { cenv with scope := relabel scope env }) (RR acc cenv.locals) s₄) E s₃) E s₂) E s₁) E s := by
  have hL1 := hl1.list F.keep N
  have hL2 := hl2.list F.keep N
  have a1 : l1 < s.heap.objs.size := by obtain ⟨_, e, _⟩ := hL1; exact Heap.lt_size e
  have a2 : l2 < s.heap.objs.size := by obtain ⟨_, e, _⟩ := hL2; exact Heap.lt_size e
  refine call_zip_2 hL1 hL2 fun h1 hz hTI hTO hit1 hit2 hsz1 hk1 => ?_
  refine wpAny_pyIter_zip hz ?_
  refine wpAny_newObj_type (wpAny_newFunctionEnv hcell (by intro y hy; simp at hy) (fun h2 hns2 hsb2 => ?_) hkind)
  dsimp only at hns2 hsb2 ⊢
  have hDs : (h1.push { cls := .type "list", dict := none, data := .seq ([] : List Value).toArray }).objs.size = s.heap.objs.size + 6 := by rw [Heap.size_push, hsz1]
  have hgD : (h1.push { cls := .type "list", dict := none, data := .seq ([] : List Value).toArray }).get? (s.heap.objs.size + 5) = some (LCg.lst []) := by
    rw [← hsz1]; exact Heap.get?_push_size _ rfl
  have hkp : ∀ b o, h1.get? b = some o → (h1.push { cls := .type "list", dict := none, data := .seq ([] : List Value).toArray }).get? b = some o := fun b o e => Heap.get?_push_of_some _ e
  generalize h1.push { cls := .type "list", dict := none, data := .seq ([] : List Value).toArray } = hp1 at hns2 hsb2 hDs hgD hkp ⊢
  have hk2 : ∀ b o, hp1.get? b = some o → h2.get? b = some o := fun b o e => hsb2.extBut b o (Nat.ne_of_lt (Heap.lt_size e)) (Heap.get?_push_of_some _ e)
  have old : ∀ b o, s.heap.get? b = some o → h2.get? b = some o := fun b o e => hk2 b o (hkp b o (hk1 b o e))
  have up : ∀ b o, h1.get? b = some o → h2.get? b = some o := fun b o e => hk2 b o (hkp b o e)
  have hLs : L < s.heap.objs.size := F.ns.lt
  have offn : ∀ b, s.heap.objs.size ≤ b → Off h₀ L news b := fun b hb => ⟨Heap.get?_none_of_le (Nat.le_trans F.above (Nat.le_trans (Nat.le_of_lt hLs) hb)), fun e => Nat.lt_irrefl _ (Nat.lt_of_lt_of_le hLs (e ▸ hb)), fun q hq e => Nat.lt_irrefl _ (Nat.lt_of_lt_of_le (Heap.lt_size (N q hq).1) (e ▸ hb))⟩
  have F2 := F.keeps old
  have N2 := N.grown old
  have W := WalksT.zip2 (prog := prog) (w := w) hh _ _ _ _ _ l1 l2 (zipApart_new a1 a2) xs ys
  have hz2 : IsZip h2 (s.heap.objs.size + 4) (s.heap.objs.size + 2) (s.heap.objs.size + 3) .none := up _ _ hz
  rw [hsz1]
  have loop : codeAny (model prog w) A (.compLoop (.ListComp elt [⟨.Tuple [.Name xa pa, .Name xb pb] tk0 tp, iter0, [ct], 0⟩, ⟨.Name y py, .Name xa pxa, [], 0⟩] scope pos) 0 (.ref (s.heap.objs.size + 4)) (.ref (s.heap.objs.size + 5)) (compEnvC scope cl hp1.objs.size env))
      (RR (.ref (s.heap.objs.size + 5)) hp1.objs.size) { s with heap := h2, toks := s.toks + ([] : List (Str × Value)).length } := by
    refine comp2_out (s := { s with heap := h2, toks := s.toks + ([] : List (Str × Value)).length }) W hh hkind hxa hxb hy hab hdb (fun b hb => offn b ?_) (offn _ ?_) (offn _ ?_) ?_ ?_ ?_ ?_ (fun i => xs.getD i .none) (fun i => ys.getD i .none) (fun i vals hv => ?_) inner (fun i hi => ?_) p K hKl
      (fun i oc m₂ h tk E' hi F N₁ N₂ e1 e2 => ?_) skip ends (fun i j u oc m₂ h tk E' hi hp hu F N₁ N₂ e => elt_ok i j u _ oc m₂ h tk E' hi hp hu F N₁ N₂ e) ?_ F2 N2 ⟨hz2, up _ _ hTI, ⟨_, _, up _ _ hTO⟩, hit1.at fun o e => up _ o e, hit2.at fun o e => up _ o e, hL1.at fun o e => old l1 o e, hL2.at fun o e => old l2 o e⟩ hns2 (hk2 _ _ hgD) K0
    · simp only [List.mem_cons, List.not_mem_nil, or_false] at hb
      rcases hb with rfl | rfl | rfl | rfl
      · exact Nat.le_add_right _ 4
      · exact Nat.le_add_right _ 3
      · exact Nat.le_refl _
      · exact Nat.le_add_right _ 1
    · rw [hDs]; exact Nat.le_add_right _ 6
    · exact Nat.le_add_right _ 5
    · rw [hDs]; exact Nat.ne_of_lt (Nat.lt_succ_self _)
    · rw [hDs]
      intro hm
      simp only [List.mem_cons, List.not_mem_nil, or_false] at hm
      have a1' : @LT.lt Nat _ l1 s.heap.objs.size := a1
      have a2' : @LT.lt Nat _ l2 s.heap.objs.size := a2
      rcases hm with e | e | e | e | e | e | e <;> (have e' : @Eq Nat _ _ := e; omega)
    · intro hm
      simp only [List.mem_cons, List.not_mem_nil, or_false] at hm
      have a1' : @LT.lt Nat _ l1 s.heap.objs.size := a1
      have a2' : @LT.lt Nat _ l2 s.heap.objs.size := a2
      rcases hm with e | e | e | e | e | e | e <;> (have e' : @Eq Nat _ _ := e; omega)
    · rintro i h ⟨c1, c2, ⟨_, _, c3⟩, ⟨_, c4, _⟩, ⟨_, c5, _⟩, ⟨_, c6, _⟩, ⟨_, c7, _⟩⟩ b hb
      simp only [List.mem_cons, List.not_mem_nil, or_false] at hb
      rcases hb with rfl | rfl | rfl | rfl | rfl | rfl | rfl
      · exact Heap.lt_size c1
      · exact Heap.lt_size c2
      · exact Heap.lt_size c3
      · exact Heap.lt_size c4
      · exact Heap.lt_size c5
      · exact Heap.lt_size c6
      · exact Heap.lt_size c7
    · obtain ⟨x, y, hx, hy, rfl⟩ := hv
      simp only [Array.getD_eq_getD_getElem?, hx, hy, Option.getD_some]
    · have hix : i < xs.size := Nat.lt_of_lt_of_le hi (Nat.min_le_left _ _)
      exact hinner i _ (by simp [Array.getD_eq_getD_getElem?, hix])
    · have hix : i < xs.size := Nat.lt_of_lt_of_le hi (Nat.min_le_left _ _)
      have hiy : i < ys.size := Nat.lt_of_lt_of_le hi (Nat.min_le_right _ _)
      exact test i (xs.getD i .none) (ys.getD i .none) _ oc m₂ h tk E' (by simp [Array.getD_eq_getD_getElem?, hix]) (by simp [Array.getD_eq_getD_getElem?, hiy]) F N₁ N₂ e1 e2
    · intro h tk m₂ zs F' N' hns' hD' hK'
      have oC := offn hp1.objs.size (by rw [hDs]; exact Nat.le_add_right _ 6)
      have oD := offn (s.heap.objs.size + 5) (Nat.le_add_right _ 5)
      refine fin _ _ h tk m₂ zs F' (fun q hq => ?_) oD.2.2 hns' ⟨oC.1, oC.2.1, fun q hq => ?_⟩ hK'
      · rcases List.mem_cons.mp hq with rfl | hq
        · exact ⟨hD', oD.2.1, oD.1⟩
        · exact N' q hq
      · rcases List.mem_cons.mp hq with rfl | hq
        · rw [hDs]; exact Nat.ne_of_lt (Nat.lt_succ_self _)
        · exact oC.2.2 q hq
  exact codeAny_compStart_list loop (wpAny_pyIter_zip hz2 loop)

theorem Assign_comp2 {g : Comprehension} {gs : List Comprehension} {scope : Scope} {cl : List (Str × Addr)} {elt : Expr} {pos spos : Pos} {yv : Str} {pyv : Pos} {Q : Flow → Shared → Prop}
    (hsw : swapsWith (.ListComp elt (g :: gs) scope pos) (some (.Name yv pyv)) spos.line env = pure true) (hclos : closureFor scope env = pure cl) (hkind : scope.kind = .function) (hnames : ∀ z ∈ scope.names, z.2 = .local → scope.names.lookup z.1 = some .local)
    (hasy : g.is_async = 0)
    (h : wpAny (model prog w) A (eval g.iter env) (fun xv s₁ => wpAny (model prog w) A (pyIter xv) (fun it s₂ => wpAny (model prog w) A (newList []) (fun acc s₃ => wpAny (model prog w) A (newFunctionEnv scope env.globals cl [] env.qual none .none (some env)) (fun cenv s₄ =>
      codeAny (model prog w) A (.compStart (.ListComp elt (g :: gs) scope pos) 0 it acc { cenv with scope := relabel scope env }) (compPost (model prog w) A E (some (assign (.Name yv pyv) env)) (fun _ s' => Q .next s') acc cenv.locals) s₄) E s₃) E s₂) E s₁) E s)
    (hs : ∀ x, foldedSetIterable g.iter env x = pure x := by intro _; rfl) :
    wpAny (model prog w) A (exec (.Assign [.Name yv pyv] (.ListComp elt (g :: gs) scope pos) spos) env) Q E s := by
  obtain ⟨gt, gi, gf, ga⟩ := g
  dsimp only at hasy
  subst hasy
  rw [exec_Assign_Name_used _ _ _ _ hsw]
  refine wpAny_bind (wpAny_standAt (wpAny_bind ?_))
  show wpAny _ A (do let _ ← comprehension (.ListComp elt (⟨gt, gi, gf, 0⟩ :: gs) scope pos) scope env _ (newList []) false (eval gi env) (some (assign (.Name yv pyv) env))) _ _ s
  exact wpAny_bind (wpAny_mono (wpAny_comprehension_free (use := some (assign (.Name yv pyv) env)) (Q := fun _ s' => Q .next s') rfl hs hclos hkind hnames h) (fun _ s' hq => wpAny_pure (wpAny_pure hq)) fun _ _ e => e)

theorem comp2_fin {yv : Str} {pyv : Pos} {Q' : Value → Shared → Prop} {D C : Addr} {h : Heap} {tk : Nat} {m' : Str → Option Value} {led : List (Addr × Obj)} (hLe : env.locals = L) (hy : env.kindOf yv = some .local) (hp : (env.scope.kind == .class || (env.scope.kind == .module && env.locals != env.globals)) = false)
    (F : Fr h₀ L h m) (N : News h₀ L h led) (hn : h.Ns C m') (oC : Off h₀ L led C)
    (hQ : ∀ h' tk', Fr h₀ L h' (fun z => if z = yv then some (.ref D) else m z) → News h₀ L h' led → Q' .none { s with heap := h', toks := tk' }) :
    compPost (model prog w) A E (some (assign (.Name yv pyv) env)) Q' (.ref D) C (.ok .next) { s with heap := h, toks := tk } := by
  subst hLe
  show wpAny _ A (assign (.Name yv pyv) env (.ref D)) _ _ _
  refine wpAny_assign_Name (wpAny_storeName_local hy F.ns (fun h₂ hn₂ hs₂ => ?_) hp)
  have F₂ := F.set hn₂ hs₂
  have N₂ := N.set hs₂
  refine ⟨m', hn.sameBut hs₂ oC.2.1, fun h'' hs'' => hQ h'' _ ?_ ?_⟩
  · exact F₂.change hs'' oC.2.1 oC.1
  · exact fun q hq => ⟨hs''.extBut _ _ (oC.2.2 q hq) (N₂ q hq).1, (N₂ q hq).2⟩
end

-- L1
section
variable {prog : Program} {w : World} {A : Around} {E : Value → Shared → Prop} {h₀ : Heap} {L : Addr} {m : Str → Option Value} {env : Env} {ct elt : Expr} {x x₂ : Str} {scope : Scope} {cl : List (Str × Addr)} {s : Shared} {S : List (Addr × Obj) → Prop} {P : Nat → Value → Prop}
    {Fin : List Value → List (Addr × Obj) → Prop}
theorem restP_inv (J : Nat → Nat → List Value → List (Addr × Obj) → Prop) (zero : ∀ i ys news, J 0 i ys news → Fin ys news)
    (succ : ∀ k i ys news, J (k + 1) i ys news → ∀ v, P i v → ∃ (t : Addr) (ot : Obj) (v₁ v₂ : Value) (nt : Nat), v = .ref t ∧ (t, ot) ∈ news ∧ ot.cls = .type "tuple" ∧ ot.data = .seq #[v₁, v₂] nt ∧
      ∀ I oI C oC D m₂ h tk (E' : Value → Shared → Prop), LCg.NsObj oC m₂ → m₂ x = some v₁ → m₂ x₂ = some v₂ → Fr h₀ L h m → News h₀ L h ((I, oI) :: (C, oC) :: (D, LCg.lst ys) :: news) → LCg.Off3 I C D news →
        wpAny (model prog w) A (eval elt (compEnvC scope cl C env)) (LCg.CompEnd h₀ L m { s with heap := h, toks := tk } I oI C oC D (LCg.lst ys) S (fun y news' => J k (i + 1) (ys ++ [y]) news')) E' { s with heap := h, toks := tk }) :
    ∀ k i ys news, J k i ys news → LCp.CompRestP prog w A h₀ L m env elt x x₂ scope cl s S P Fin k i ys news := by
  intro k
  induction k with
  | zero => intro i ys news j; exact LCp.CompRestP.zero (zero i ys news j)
  | succ k ih =>
    intro i ys news j
    refine LCp.CompRestP.succ fun v hP => ?_
    obtain ⟨t, ot, v₁, v₂, nt, a, b, c, d, h⟩ := succ k i ys news j v hP
    exact ⟨t, ot, v₁, v₂, nt, a, b, c, d, fun I oI C oC D m₂ h' tk E' hC e1 e2 F N off ne => wpAny_mono (h I oI C oC D m₂ h' tk E' hC e1 e2 F N off) (fun y s'' z => compEnd_mono z fun y n => ih _ _ _) fun _ _ e => e⟩

/-- a comprehension over bytes -/
theorem ListComp_bytes {iter : Expr} {px : Pos} {pos : Pos} {Q : Value → Shared → Prop} (_F₀ : Fr h₀ L s.heap m)
    (hclos : closureFor scope env = pure cl) (hcell : ∀ y ∈ scope.names, y.2 ≠ .cell) (hkind : scope.kind = .function)
    (hnames : ∀ y ∈ scope.names, y.2 = .local → scope.names.lookup y.1 = some .local) (hx : scope.names.lookup x = some .local)
    (h : wpAny (model prog w) A (eval iter env) (fun xv s₁ => ∃ b tb news, xv = .bytes b tb ∧ A.handled = none ∧ Fr h₀ L s₁.heap m ∧ News h₀ L s₁.heap news ∧ b.size ≤ sizeLine ∧
      ∀ s₂ : Shared, (∃ h, s₂ = { s₁ with heap := h }) → LCg.CompRest prog w A h₀ L m env elt x scope cl s₂ (fun _ => True) (fun i v => ∃ c u, b[i]? = some c ∧ v = .int (c.toNat : Int) u) (LCg.FinE h₀ L m s₂ Q) b.size 0 [] news) E s)
    (hs : ∀ x, foldedSetIterable iter env x = pure x := by intro _; rfl) :
    wpAny (model prog w) A (eval (.ListComp elt [⟨.Name x px, iter, [], 0⟩] scope pos) env) Q E s := by
  rw [eval_ListComp]
  refine wpAny_comprehension_free (use := none) rfl hs hclos hkind hnames (wpAny_mono h (fun xv s₁ h₁ => ?_) fun _ _ e => e)
  obtain ⟨b, tb, news, rfl, hh, F, N, hsz, R⟩ := h₁
  refine KBw.pyIter_bytes ?_
  refine LCg.block_U (KBw.walks hh s₁.heap.objs.size b tb) hsz (fun i h st => let ⟨o, e, _⟩ := st; ⟨o, e⟩) (fun i h h' o nw st e e' _ _ _ => by
      obtain ⟨o', eo, r⟩ := st
      rw [e] at eo
      cases eo
      exact ⟨o, e', r⟩) hcell hkind hx ⟨_, Heap.get?_push_size _ rfl, rfl, rfl⟩ (fun b hb => ?_)
    (F.keeps fun _ _ e => Heap.get?_push_of_some _ e) (N.grown fun _ _ e => Heap.get?_push_of_some _ e) (Nat.ne_of_lt F.ns.lt) (next_is_new F) (fun p hp => Nat.ne_of_lt (Heap.lt_size (N p hp).1)) trivial (R _ ⟨_, rfl⟩) ?_
  · rw [List.mem_singleton.mp hb]
    show s₁.heap.objs.size < (s₁.heap.push _).objs.size
    rw [Heap.size_push]; exact Nat.lt_succ_self _
  · intro D C h tk m' ys news' F' N' o1 hn hC₀ hD₀ hCL hDL hCD offC fin
    refine ⟨m', hn, fun h'' hs'' => fin D h'' tk (F'.change hs'' hCL hC₀) (fun p hp => ?_) o1⟩
    refine ⟨hs''.extBut _ _ ?_ (N' p hp).1, (N' p hp).2⟩
    rcases List.mem_cons.mp hp with rfl | hp
    · exact Ne.symm hCD
    · exact offC p hp

/-- a comprehension over an ASCII string -/
theorem ListComp_str {iter : Expr} {px : Pos} {pos : Pos} {Q : Value → Shared → Prop} (_F₀ : Fr h₀ L s.heap m)
    (hclos : closureFor scope env = pure cl) (hcell : ∀ y ∈ scope.names, y.2 ≠ .cell) (hkind : scope.kind = .function)
    (hnames : ∀ y ∈ scope.names, y.2 = .local → scope.names.lookup y.1 = some .local) (hx : scope.names.lookup x = some .local)
    (h : wpAny (model prog w) A (eval iter env) (fun xv s₁ => ∃ y ty news, xv = .str y ty ∧ y.cps.all (· < 128) = true ∧ A.handled = none ∧ Fr h₀ L s₁.heap m ∧ News h₀ L s₁.heap news ∧ y.cps.size ≤ sizeLine ∧
      ∀ s₂ : Shared, (∃ h, s₂ = { s₁ with heap := h }) → LCg.CompRest prog w A h₀ L m env elt x scope cl s₂ (fun _ => True) (SignAt y) (LCg.FinE h₀ L m s₂ Q) y.cps.size 0 [] news) E s)
    (hs : ∀ x, foldedSetIterable iter env x = pure x := by intro _; rfl) :
    wpAny (model prog w) A (eval (.ListComp elt [⟨.Name x px, iter, [], 0⟩] scope pos) env) Q E s := by
  rw [eval_ListComp]
  refine wpAny_comprehension_free (use := none) rfl hs hclos hkind hnames (wpAny_mono h (fun xv s₁ h₁ => ?_) fun _ _ e => e)
  obtain ⟨y, ty, news, rfl, hasc, hh, F, N, hsz, R⟩ := h₁
  refine wpAny_pyIter_ascii hasc ?_
  refine LCg.block_U (Walks.strAscii hh s₁.heap.objs.size y ty) hsz (fun i h st => let ⟨o, e, _⟩ := st; ⟨o, e⟩) (fun i h h' o nw st e e' _ _ _ => by
      obtain ⟨o', eo, r⟩ := st
      rw [e] at eo
      cases eo
      exact ⟨o, e', r⟩) hcell hkind hx ⟨_, Heap.get?_push_size _ rfl, rfl, rfl⟩ (fun b hb => ?_)
    (F.keeps fun _ _ e => Heap.get?_push_of_some _ e) (N.grown fun _ _ e => Heap.get?_push_of_some _ e) (Nat.ne_of_lt F.ns.lt) (next_is_new F) (fun p hp => Nat.ne_of_lt (Heap.lt_size (N p hp).1)) trivial (R _ ⟨_, rfl⟩) ?_
  · rw [List.mem_singleton.mp hb]
    show s₁.heap.objs.size < (s₁.heap.push _).objs.size
    rw [Heap.size_push]; exact Nat.lt_succ_self _
  · intro D C h tk m' ys news' F' N' o1 hn hC₀ hD₀ hCL hDL hCD offC fin
    refine ⟨m', hn, fun h'' hs'' => fin D h'' tk (F'.change hs'' hCL hC₀) (fun p hp => ?_) o1⟩
    refine ⟨hs''.extBut _ _ ?_ (N' p hp).1, (N' p hp).2⟩
    rcases List.mem_cons.mp hp with rfl | hp
    · exact Ne.symm hCD
    · exact offC p hp

theorem tups_list {h₀ h : Heap} : ∀ {vs : List Value} {ps : List (Int × Int)}, Tups (newH h₀ h) vs ps → ∃ tl, (∀ q ∈ tl, h.get? q.1 = some q.2 ∧ h₀.get? q.1 = none) ∧ Tups (inL tl) vs ps
  | _, _, .nil => ⟨[], (fun _ h => nomatch h), .nil⟩
  | _, _, .cons (a := a) (o := o) x y z => by
    obtain ⟨tl, h1, h2⟩ := tups_list z
    refine ⟨(a, o) :: tl, fun q hq => ?_, .cons (.head _) y (h2.mono fun _ _ => .tail _)⟩
    rcases List.mem_cons.mp hq with rfl | hq
    · exact x
    · exact h1 q hq
theorem Tups.get {P' : Addr → Obj → Prop} : ∀ {vs : List Value} {ps : List (Int × Int)}, Tups P' vs ps → ∀ (i : Nat) (v : Value), vs[i]? = some v → ∃ a o f l, v = .ref a ∧ P' a o ∧ TupObj o f l ∧ ps[i]? = some (f, l)
  | _, _, .nil, i, v, e => by simp at e
  | _, _, .cons (a := a) (o := o) (f := f) (l := l) x y z, 0, v, e => by simp at e; exact ⟨a, o, f, l, e.symm, x, y, rfl⟩
  | _, _, .cons x y z, i + 1, v, e => by simpa using z.get i v (by simpa using e)

theorem add_new {h₀ hc h2 : Heap} {L D : Addr} {m : Str → Option Value} {news : List (Addr × Obj)} {o : Obj} (F : Fr h₀ L hc m) (N : News h₀ L hc news) (k : Keep hc h2) (hn : hc.get? D = none) (hD : h2.get? D = some o) : News h₀ L h2 ((D, o) :: news) := fun q hq => by
  rcases List.mem_cons.mp hq with rfl | hq
  · refine ⟨hD, ?_, ?_⟩
    · rintro rfl
      obtain ⟨o', _, _, e, _⟩ := F.ns
      rw [hn] at e; cases e
    · cases e : h₀.get? D with
      | none => rfl
      | some o' => have := F.keep D o' e; rw [hn] at this; cases this
  · exact N.grown k q hq
theorem add_all {h₀ hc h2 : Heap} {L : Addr} {m : Str → Option Value} {news : List (Addr × Obj)} (F : Fr h₀ L hc m) (N : News h₀ L hc news) (k : Keep hc h2) {tl : List (Addr × Obj)} (h : ∀ q ∈ tl, h2.get? q.1 = some q.2 ∧ hc.get? q.1 = none) : News h₀ L h2 (tl ++ news) := fun q hq => by
  rcases List.mem_append.mp hq with hq | hq
  · exact add_new F N k (h q hq).2 (h q hq).1 _ (.head _)
  · exact N.grown k q hq

inductive WL (wl : List (Addr × Obj)) : List Value → List (List Int) → Prop where
  | nil : WL wl [] []
  | cons {a : Addr} {us : List Value} {n : Nat} {wd : List Int} {r : List Value} {rs : List (List Int)} : (a, W.listOf us.toArray n) ∈ wl → IntsAre us wd → WL wl r rs → WL wl (.ref a :: r) (wd :: rs)
theorem WL.mono {wl wl' : List (Addr × Obj)} (h : ∀ q ∈ wl, q ∈ wl') : ∀ {vs : List Value} {ws : List (List Int)}, WL wl vs ws → WL wl' vs ws
  | _, _, .nil => .nil
  | _, _, .cons a b c => .cons (h _ a) b (WL.mono h c)
theorem WL.snoc {wl : List (Addr × Obj)} {a : Addr} {us : List Value} {n : Nat} {wd : List Int} (x : (a, W.listOf us.toArray n) ∈ wl) (y : IntsAre us wd) : ∀ {vs : List Value} {ws : List (List Int)}, WL wl vs ws → WL wl (vs ++ [.ref a]) (ws ++ [wd])
  | _, _, .nil => .cons x y .nil
  | _, _, .cons a b c => .cons a b (WL.snoc x y c)
theorem WL.lists {wl : List (Addr × Obj)} {h : Heap} (N : ∀ q ∈ wl, h.get? q.1 = some q.2) : ∀ {vs : List Value} {ws : List (List Int)}, WL wl vs ws → Lists h vs ws
  | _, _, .nil => .nil
  | _, _, .cons a b c => .cons ⟨_, N _ a⟩ b (WL.lists N c)
theorem WL.length {wl : List (Addr × Obj)} : ∀ {vs : List Value} {ws : List (List Int)}, WL wl vs ws → vs.length = ws.length
  | _, _, .nil => rfl
  | _, _, .cons _ _ c => by rw [List.length_cons, List.length_cons, c.length]
theorem WL.get {wl : List (Addr × Obj)} : ∀ {vs : List Value} {ws : List (List Int)}, WL wl vs ws → ∀ (i : Nat) (v : Value), vs[i]? = some v → ∃ a us n wd, v = .ref a ∧ (a, W.listOf us.toArray n) ∈ wl ∧ IntsAre us wd ∧ ws[i]? = some wd
  | _, _, .nil, i, v, e => by simp at e
  | _, _, .cons (a := a) x y z, 0, v, e => by simp at e; exact ⟨a, _, _, _, e.symm, x, y, rfl⟩
  | _, _, .cons x y z, i + 1, v, e => by simpa using z.get i v (by simpa using e)
end

-- P0
theorem ints_take {ys : List Value} {l : List Int} {i : Nat} {f : Int} {t : Tok} (h : IntsAre ys (l.take i)) (e : l[i]? = some f) : IntsAre (ys ++ [.int f t]) (l.take (i + 1)) := by
  rw [List.take_add_one, e]
  exact h.append (.cons _ _ .nil)
theorem apOf_length (l : Int) : (apOf l).length ≤ 2 := by
  unfold apOf
  split
  · exact Nat.zero_le _
  · split <;> simp
theorem off1_mem {D : Addr} : ∀ {l : List (Addr × Obj)}, LCg.Off1 D l → ∀ p ∈ l, p.1 ≠ D
  | [], _, _, h => nomatch h
  | _ :: _, x, p, h => by
    rcases List.mem_cons.mp h with rfl | h
    · exact x.1
    · exact off1_mem x.2 p h
theorem allLt_mem {n : Addr} : ∀ {l : List (Addr × Obj)}, AllLt n l → ∀ p ∈ l, p.1 < n
  | [], _, _, h => nomatch h
  | _ :: _, x, p, h => by
    rcases List.mem_cons.mp h with rfl | h
    · exact x.1
    · exact allLt_mem x.2 p h
def wordOf (l : Int) : List Int := (apOf l).map (fun c => (c.toNat : Int)) ++ [92, 34]
def numOf' (l : Int) : Int := 4096 * spread l + 1826
def figsAt (fs : List Int) : Nat → List Int
  | 0 => fs
  | n + 1 => struckOf fs ((n + 1 : Nat) : Int)

structure Tail (h₀ : Heap) (L : Addr) (Led : List (Addr × Obj)) (D1 D2 D3 : Addr) (ys zs qs : List Value) (fs labels : List Int) : Prop where
  off : ∀ q ∈ Led, q.1 ≠ L + 1
  i1 : (D1, LCg.lst ys) ∈ Led
  i2 : (D2, LCg.lst zs) ∈ Led
  i3 : (D3, LCg.lst qs) ∈ Led
  a1 : IntsAre ys fs
  a2 : WL Led zs (labels.map wordOf)
  a3 : IntsAre qs (labels.map numOf')
  len : fs.length = labels.length
  lo : 4 ≤ labels.length
  hi : labels.length ≤ 7
  f01 : ∀ f ∈ fs, f = 0 ∨ f = 1
  lab : ∀ (k : Nat) (l : Int), labels[k]? = some l → ∃ j : Int, 0 ≤ j ∧ j < 32 ∧ l = k + 8 * j

def RJ (g0 : Array GenState) (L : Addr) (Led : List (Addr × Obj)) (D1 D2 D3 : Addr) (fs : List Int) : Inv := fun i g m news =>
  (AllBare g0 → AllBare g) ∧ m "start" = some (.ref D1) ∧ m "words" = some (.ref D2) ∧ m "numbers" = some (.ref D3) ∧ ∃ DF fv oc v₀, m "figures" = some (.ref DF) ∧ news = (DF, LCg.lst fv) :: (L + 1, oc) :: Led ∧ oc.data = .cell v₀ ∧ DF ≠ L + 1 ∧ IntsAre fv (figsAt fs i)
def forBody : List Stmt → List Stmt
  | .For _ _ b _ _ :: _ => b
  | _ => []
def toNats (l : List Int) : List Nat := l.map Int.toNat
def keptOct (labels gone : List Int) : List Int := ((labels.zip gone).filter fun q => decide (q.2 = 0)).flatMap fun q => wordOf q.1
def keptNum (labels gone : List Int) : List Int := ((labels.zip gone).filter fun q => decide (q.2 = 0)).map fun q => numOf' q.1

-- PL
theorem allB {P : Nat → Prop} [DecidablePred P] {n : Nat} (h : ∀ l : Fin n, P l.val) {l : Int} (h0 : 0 ≤ l) (h1 : l < n) : P l.toNat := h ⟨l.toNat, by omega⟩
theorem cast_nat {l : Int} (h0 : 0 ≤ l) : ((l.toNat : Nat) : Int) = l := Int.toNat_of_nonneg h0

/-- the word of a label as a chunk: the letters and the backslash, then the mark -/
def wchunk (l : Int) : Chunk := ((apOf l).map (fun c => (c.toNat : Int)) ++ [92], 34)
theorem word_facts0 : ∀ l : Fin 256, ((∀ b ∈ (wchunk (l.val : Int)).1, 64 ≤ b ∧ b < 128) ∧ (wchunk (l.val : Int)).1.length ≤ 9) ∧ (wchunk (l.val : Int)).num = numOf' (l.val : Int) ∧ (∀ b ∈ (apOf (l.val : Int)).map (fun c => (c.toNat : Int)), 65 ≤ b ∧ b < 81) := by decide +kernel
theorem word_facts {l : Int} (h : 0 ≤ l ∧ l < 256) : (wchunk l).ok ∧ (wchunk l).num = numOf' l ∧ (∀ b ∈ (apOf l).map (fun c => (c.toNat : Int)), 65 ≤ b ∧ b < 81) := by
  have q := word_facts0 ⟨l.toNat, by omega⟩
  rw [show (((⟨l.toNat, by omega⟩ : Fin 256).val : Nat) : Int) = l from Int.toNat_of_nonneg h.1] at q
  exact ⟨⟨q.1.1, ⟨show (0 : Int) ≤ 34 by decide, show (34 : Int) < 64 by decide⟩, q.1.2⟩, q.2⟩
theorem word_chunk (l : Int) : (wchunk l).1 ++ [(wchunk l).2] = wordOf l := by simp [wchunk, wordOf]
theorem flat_append (a b : List Chunk) : flat (a ++ b) = flat a ++ flat b := by simp [flat]
theorem flat_one (c : Chunk) : flat [c] = c.1 ++ [c.2] := by simp [flat]
abbrev bare : Chunk := ([], 34)
theorem bare_ok : bare.ok := ⟨(fun _ h => nomatch h), by decide, by decide⟩
theorem bare_num : bare.num = 34 := by decide +kernel
def pchunk (q : Int × Int) : List Chunk := (if q.2 = 0 then [] else [bare]) ++ [wchunk q.1]

theorem marks_cons (p : List Int × Int) (r : List (List Int × Int)) : marks (p :: r) = mk p ++ marks r := by simp [marks]
theorem marks_chunks : ∀ {labels figs : List Int}, (∀ l ∈ labels, 0 ≤ l ∧ l < 256) →
    ∃ cs : List Chunk, flat cs = marks ((labels.map wordOf).zip figs) ∧ (∀ c ∈ cs, c.ok) ∧ cs.map Chunk.num = marks ((labels.map fun l => [numOf' l]).zip figs)
  | [], _, _ => ⟨[], by simp [flat, marks], (fun _ h => nomatch h), by simp [marks]⟩
  | _ :: _, [], _ => ⟨[], by simp [flat, marks], (fun _ h => nomatch h), by simp [marks]⟩
  | l :: labels, f :: figs, hb => by
    obtain ⟨cs, h1, h2, h3⟩ := @marks_chunks labels figs fun x hx => hb x (.tail _ hx)
    obtain ⟨w1, w2, _⟩ := word_facts (hb l (.head _))
    refine ⟨pchunk (l, f) ++ cs, ?_, ?_, ?_⟩
    · rw [flat_append, h1, List.map_cons, List.zip_cons_cons, marks_cons]
      congr 1
      rw [pchunk, flat_append, flat_one, word_chunk, mk]
      congr 1
      by_cases h : f = 0 <;> simp [h, flat]
    · intro c hc
      rcases List.mem_append.mp hc with hc | hc
      · rcases List.mem_append.mp hc with hc | hc
        · by_cases h : f = 0
          · simp [h] at hc
          · simp [h] at hc
            exact hc ▸ bare_ok
        · rw [List.mem_singleton.mp hc]; exact w1
      · exact h2 c hc
    · rw [List.map_append, h3, List.map_cons, List.zip_cons_cons, marks_cons]
      congr 1
      rw [pchunk, List.map_append, mk]
      congr 1
      · by_cases h : f = 0
        · simp [h]
        · simp only [h, if_false, List.map_cons, List.map_nil, bare_num]
      · simp [w2]

theorem line_chunks {labels figs : List Int} (_hl : labels.length = figs.length) (hb : ∀ l ∈ labels, 0 ≤ l ∧ l < 256) (_h01 : ∀ f ∈ figs, f = 0 ∨ f = 1) :
    ∃ cs : List Chunk, flat cs = lineOf (labels.map wordOf) figs ∧ (∀ c ∈ cs, c.ok) ∧ cs.map Chunk.num = lineOf (labels.map fun l => [numOf' l]) figs := by
  obtain ⟨cs, h1, h2, h3⟩ := @marks_chunks labels figs hb
  by_cases h : figs.sum % 2 = 1
  · refine ⟨cs ++ [bare], ?_, ?_, ?_⟩
    · rw [flat_append, h1, flat_one, lineOf, if_pos h]; rfl
    · intro c hc
      rcases List.mem_append.mp hc with hc | hc
      · exact h2 c hc
      · rw [List.mem_singleton.mp hc]; exact bare_ok
    · rw [List.map_append, h3, lineOf, if_pos h, List.map_cons, List.map_nil, bare_num]
  · exact ⟨cs, by rw [h1, lineOf, if_neg h, List.append_nil], h2, by rw [h3, lineOf, if_neg h, List.append_nil]⟩

theorem left_chunks {labels gone : List Int} (hb : ∀ l ∈ labels, 0 ≤ l ∧ l < 256) :
    ∃ cs : List Chunk, flat cs = keptOct labels gone ∧ (∀ c ∈ cs, c.ok) ∧ cs.map Chunk.num = keptNum labels gone := by
  refine ⟨((labels.zip gone).filter fun q => decide (q.2 = 0)).map fun q => wchunk q.1, ?_, ?_, ?_⟩
  · simp only [flat, keptOct, List.map_map, List.flatMap_def]
    congr 1
    refine List.map_congr_left fun q _ => word_chunk q.1
  · intro c hc
    obtain ⟨q, hq, rfl⟩ := List.mem_map.mp hc
    exact (word_facts (hb _ (List.of_mem_zip (List.mem_filter.mp hq).1).1)).1
  · rw [List.map_map, keptNum]
    refine List.map_congr_left fun q hq => (word_facts (hb _ (List.of_mem_zip (List.mem_filter.mp hq).1).1)).2.1

theorem word_len (l : Int) : (wordOf l).length ≤ 4 := by
  unfold wordOf apOf
  split
  · simp
  · split <;> simp
theorem marks_len {g : Int → List Int} (hg : ∀ l, (g l).length ≤ 4) : ∀ (labels figs : List Int), (marks ((labels.map g).zip figs)).length ≤ 5 * labels.length
  | [], _ => by simp [marks]
  | _ :: _, [] => by simp [marks]
  | l :: labels, f :: figs => by
    have h1 := marks_len hg labels figs
    have h2 := hg l
    rw [List.map_cons, List.zip_cons_cons, marks_cons, mk, List.length_append, List.length_append, List.length_cons]
    have h3 : (if f = 0 then ([] : List Int) else [34]).length ≤ 1 := by split <;> simp
    dsimp only
    omega
theorem line_len {labels figs : List Int} (h7 : labels.length ≤ 7) : (marks ((labels.map wordOf).zip figs)).length ≤ 100 := by
  have := marks_len word_len labels figs
  omega
theorem num_len {labels figs : List Int} (h7 : labels.length ≤ 7) : (marks ((labels.map fun l => [numOf' l]).zip figs)).length ≤ 100 := by
  have := marks_len (g := fun l => [numOf' l]) (fun _ => by simp) labels figs
  omega
theorem kept_cons (l : Int) (labels : List Int) (g : Int) (gone : List Int) : keptOct (l :: labels) (g :: gone) = (if g = 0 then wordOf l else []) ++ keptOct labels gone := by
  by_cases h : g = 0 <;> simp [keptOct, h]
theorem kept_le : ∀ (labels gone : List Int), (keptOct labels gone).length ≤ 4 * labels.length
  | [], _ => by simp [keptOct]
  | _ :: _, [] => by simp [keptOct]
  | l :: labels, g :: gone => by
    have h1 := kept_le labels gone
    have h2 := word_len l
    rw [kept_cons, List.length_append, List.length_cons]
    have h3 : (if g = 0 then wordOf l else []).length ≤ 4 := by split <;> simp_all
    omega
theorem kept_len {labels gone : List Int} (h7 : labels.length ≤ 7) : (keptOct labels gone).length ≤ 100 := by
  have := kept_le labels gone
  omega
theorem struck_01 (fs : List Int) (t : Int) : ∀ f ∈ struckOf fs t, f = 0 ∨ f = 1 := by
  intro f hf
  obtain ⟨k, _, rfl⟩ := List.mem_map.mp hf
  unfold struckAt
  omega
theorem word_oct {l : Int} (hb : 0 ≤ l ∧ l < 256) : ∀ c ∈ wordOf l, 0 ≤ c ∧ c < 128 := by
  intro c hc
  rcases List.mem_append.mp hc with hc | hc
  · have := (word_facts hb).2.2 c hc
    omega
  · simp at hc; omega
theorem marks_oct : ∀ {labels figs : List Int}, (∀ l ∈ labels, 0 ≤ l ∧ l < 256) → ∀ c ∈ marks ((labels.map wordOf).zip figs), 0 ≤ c ∧ c < 128
  | [], _, _, c, hc => by simp [marks] at hc
  | _ :: _, [], _, c, hc => by simp [marks] at hc
  | l :: labels, f :: figs, hb, c, hc => by
    rw [List.map_cons, List.zip_cons_cons, marks_cons, mk] at hc
    rcases List.mem_append.mp hc with hc | hc
    · rcases List.mem_append.mp hc with hc | hc
      · by_cases h : f = 0 <;> simp [h] at hc
        omega
      · exact word_oct (hb l (.head _)) c hc
    · exact marks_oct (fun x hx => hb x (.tail _ hx)) c hc
theorem line_oct {labels figs : List Int} (hb : ∀ l ∈ labels, 0 ≤ l ∧ l < 256) : ∀ c ∈ lineOf (labels.map wordOf) figs, 0 ≤ c ∧ c < 128 := by
  intro c hc
  rcases List.mem_append.mp hc with hc | hc
  · exact marks_oct hb c hc
  · by_cases h : figs.sum % 2 = 1 <;> simp [h] at hc
    omega
theorem figs_facts {fs : List Int} (i : Nat) (h01 : ∀ f ∈ fs, f = 0 ∨ f = 1) : (figsAt fs i).length = fs.length ∧ ∀ f ∈ figsAt fs i, f = 0 ∨ f = 1 := by
  cases i with
  | zero => exact ⟨rfl, h01⟩
  | succ n => exact ⟨by simp [figsAt, struckOf], struck_01 _ _⟩

def unspread (v : Int) : Int := if v = 0 then 0 else (v % 64 - 1) + 16 * (if v / 64 = 0 then 0 else v / 64 - 1)
theorem unspread0 : ∀ l : Fin 256, unspread (spread (l.val : Int)) = (l.val : Int) := by decide +kernel
theorem unspread_eq {l : Int} (h : 0 ≤ l ∧ l < 256) : unspread (spread l) = l := by
  have q := unspread0 ⟨l.toNat, by omega⟩
  rwa [show (((⟨l.toNat, by omega⟩ : Fin 256).val : Nat) : Int) = l from Int.toNat_of_nonneg h.1] at q
theorem kept_iff {labels gone : List Int} (_hl : gone.length = labels.length) (_h01 : ∀ f ∈ gone, f = 0 ∨ f = 1) (lab : ∀ (k : Nat) (l : Int), labels[k]? = some l → ∃ j : Int, 0 ≤ j ∧ j < 32 ∧ l = k + 8 * j) (h7 : labels.length ≤ 7)
    (k : Nat) (l g : Int) (h1 : labels[k]? = some l) (h2 : gone[k]? = some g) : (numOf' l ∈ keptNum labels gone ↔ g = 0) := by
  unfold keptNum
  constructor
  · intro h
    obtain ⟨q, hq, he⟩ := List.mem_map.mp h
    obtain ⟨hq1, hq2⟩ := List.mem_filter.mp hq
    obtain ⟨i, hi⟩ := List.getElem?_of_mem hq1
    obtain ⟨l', g'⟩ := q
    obtain ⟨e1, e2⟩ := List.getElem?_zip_eq_some.mp hi
    dsimp only at he hq2 e1 e2
    obtain ⟨j, j0, j1, ej⟩ := lab k l h1
    obtain ⟨j', j0', j1', ej'⟩ := lab i l' e1
    have hk := (List.getElem?_eq_some_iff.mp h1).1
    have hi' := (List.getElem?_eq_some_iff.mp e1).1
    have hs : spread l' = spread l := by unfold numOf' at he; omega
    have := congrArg unspread hs
    rw [unspread_eq (by omega), unspread_eq (by omega)] at this
    have hik : i = k := by omega
    subst hik
    rw [h2] at e2
    cases e2
    simpa using hq2
  · rintro rfl
    refine List.mem_map.mpr ⟨(l, 0), List.mem_filter.mpr ⟨List.mem_of_getElem? (i := k) (List.getElem?_zip_eq_some.mpr ⟨h1, h2⟩), by simp⟩, rfl⟩
/-- prefix parities -/
def par : Int → List Int → List Int
  | _, [] => []
  | a, f :: r => (a + f) % 2 :: par ((a + f) % 2) r
def sel (t : Int) (k : Nat) : List Nat := (List.range (k + 1)).filter fun (far : Nat) => decide (Builtin.bitAnd (t - 1) (far : Int) = 0)
theorem sel1 : (List.range 7).map (sel 1) = [[0], [0, 1], [0, 1, 2], [0, 1, 2, 3], [0, 1, 2, 3, 4], [0, 1, 2, 3, 4, 5], [0, 1, 2, 3, 4, 5, 6]] := by decide +kernel
theorem sel2 : (List.range 7).map (sel 2) = [[0], [0], [0, 2], [0, 2], [0, 2, 4], [0, 2, 4], [0, 2, 4, 6]] := by decide +kernel
theorem sel3 : (List.range 7).map (sel 3) = [[0], [0, 1], [0, 1], [0, 1], [0, 1, 4], [0, 1, 4, 5], [0, 1, 4, 5]] := by decide +kernel
theorem sel4 : (List.range 7).map (sel 4) = [[0], [0], [0], [0], [0, 4], [0, 4], [0, 4]] := by decide +kernel
theorem sel5 : (List.range 7).map (sel 5) = [[0], [0, 1], [0, 1, 2], [0, 1, 2, 3], [0, 1, 2, 3], [0, 1, 2, 3], [0, 1, 2, 3]] := by decide +kernel
def look (s : List (List Nat)) (k : Nat) : List Nat := s.getD k []
def pick (fs : List Int) (k : Nat) (s : List Nat) : Int := (s.map fun far => fs.getD (k - far) 0).sum % 2
theorem at_sel (fs : List Int) {t : Int} {s : List (List Nat)} (h : (List.range 7).map (sel t) = s) {k : Nat} (hk : k < 7) : struckAt fs t k = pick fs k (look s k) := by
  have : look s k = sel t k := by rw [← h]; simp [look, hk]
  rw [this]; rfl
theorem struck_sel (fs : List Int) (h7 : fs.length ≤ 7) {t : Int} {s : List (List Nat)} (h : (List.range 7).map (sel t) = s) : struckOf fs t = (List.range fs.length).map fun k => pick fs k (look s k) := by
  refine List.map_congr_left fun k hk => at_sel fs h ?_
  have := List.mem_range.mp hk
  omega
def tab : Nat → List (List Nat)
  | 0 => [[0], [0, 1], [0, 1, 2], [0, 1, 2, 3], [0, 1, 2, 3, 4], [0, 1, 2, 3, 4, 5], [0, 1, 2, 3, 4, 5, 6]]
  | 1 => [[0], [0], [0, 2], [0, 2], [0, 2, 4], [0, 2, 4], [0, 2, 4, 6]]
  | 2 => [[0], [0, 1], [0, 1], [0, 1], [0, 1, 4], [0, 1, 4, 5], [0, 1, 4, 5]]
  | 3 => [[0], [0], [0], [0], [0, 4], [0, 4], [0, 4]]
  | _ => [[0], [0, 1], [0, 1, 2], [0, 1, 2, 3], [0, 1, 2, 3], [0, 1, 2, 3], [0, 1, 2, 3]]
theorem struck_tab (fs : List Int) (h7 : fs.length ≤ 7) {i : Nat} (hi : i < 5) : struckOf fs ((i + 1 : Nat) : Int) = (List.range fs.length).map fun k => pick fs k (look (tab i) k) := by
  match i, hi with
  | 0, _ => exact struck_sel fs h7 sel1
  | 1, _ => exact struck_sel fs h7 sel2
  | 2, _ => exact struck_sel fs h7 sel3
  | 3, _ => exact struck_sel fs h7 sel4
  | 4, _ => exact struck_sel fs h7 sel5
theorem par_of {g : Nat → Int} {f : Nat → Int} : ∀ (n k : Nat) (a : Int), (∀ j, k ≤ j → j < k + n → g j = ((if j = k then a else g (j - 1)) + f j) % 2) → (List.range' k n).map g = par a ((List.range' k n).map f)
  | 0, _, _, _ => rfl
  | n + 1, k, a, h => by
    rw [List.range'_succ, List.map_cons, List.map_cons, par]
    have h0 := h k (Nat.le_refl _) (by omega)
    rw [if_pos rfl] at h0
    rw [h0]
    congr 1
    refine par_of n (k + 1) _ fun j h1 h2 => ?_
    have := h j (by omega) (by omega)
    rw [if_neg (by omega)] at this
    by_cases e : j = k + 1
    · subst e
      rw [if_pos rfl, ← h0]
      exact this
    · rw [if_neg e]; exact this
theorem step_tab (fs : List Int) (h01 : ∀ j, fs.getD j 0 = 0 ∨ fs.getD j 0 = 1) : ∀ (i : Fin 5) (k : Fin 7), pick fs k.val (look (tab i.val) k.val) = ((if k.val = 0 then 0 else pick fs (k.val - 1) (look (tab i.val) (k.val - 1))) + (if i.val = 0 then fs.getD k.val 0 else pick fs k.val (look (tab (i.val - 1)) k.val))) % 2 := by
  intro ⟨i, hi⟩ ⟨k, hk⟩
  have e0 := h01 0
  have e1 := h01 1
  have e2 := h01 2
  have e3 := h01 3
  have e4 := h01 4
  have e5 := h01 5
  have e6 := h01 6
  match i, hi with
  | 0, _ | 1, _ | 2, _ | 3, _ | 4, _ =>
    match k, hk with
    | 0, _ | 1, _ | 2, _ | 3, _ | 4, _ | 5, _ | 6, _ =>
      simp only [tab, look, pick, List.getD_eq_getElem?_getD, List.getElem?_cons_zero, List.getElem?_cons_succ, Option.getD_some, List.map_cons, List.map_nil, List.sum_cons, List.sum_nil, Nat.sub_zero, Nat.reduceSub, Nat.reduceEqDiff, if_true, if_false] at e0 e1 e2 e3 e4 e5 e6 ⊢
      omega
theorem par_struck {fs : List Int} (h7 : fs.length ≤ 7) (h01 : ∀ f ∈ fs, f = 0 ∨ f = 1) {i : Nat} (hi : i < 5) : struckOf fs ((i + 1 : Nat) : Int) = par 0 (figsAt fs i) := by
  have hg : ∀ j, fs.getD j 0 = 0 ∨ fs.getD j 0 = 1 := by
    intro j
    rw [List.getD_eq_getElem?_getD]
    cases e : fs[j]? with
    | none => exact .inl rfl
    | some x => exact h01 x (List.mem_of_getElem? e)
  have hf : figsAt fs i = (List.range fs.length).map fun k => if i = 0 then fs.getD k 0 else pick fs k (look (tab (i - 1)) k) := by
    cases i with
    | zero =>
      refine List.ext_getElem (by simp [figsAt]) fun j h1 h2 => ?_
      simp only [figsAt] at h1 ⊢
      simp [List.getElem?_eq_getElem h1]
    | succ n =>
      rw [figsAt, struck_tab fs h7 (by omega)]
      rfl
  rw [hf, struck_tab fs h7 hi, List.range_eq_range']
  refine par_of (f := fun k => if i = 0 then fs.getD k 0 else pick fs k (look (tab (i - 1)) k)) _ _ _ fun j _ hj => ?_
  exact step_tab fs hg ⟨i, hi⟩ ⟨j, by omega⟩
/-- what is struck out, told sign by sign: e, behind a backslash; o, between two bare marks -/
def keep : List Nat → Bool → Bool → List Nat
  | [], _, _ => []
  | c :: r, true, o => (if o then [] else [c]) ++ keep r false o
  | c :: r, false, o => if c = 92 then (if o then [] else [c]) ++ keep r true o else if c = 34 then keep r false (!o) else (if o then [] else [c]) ++ keep r false o
def openEnd : List Nat → Bool → Bool → Bool
  | [], _, o => o
  | _ :: r, true, o => openEnd r false o
  | c :: r, false, o => if c = 92 then openEnd r true o else if c = 34 then openEnd r false (!o) else openEnd r false o

theorem cut_snoc (pre : List Nat) (c : Nat) (r : List Nat) (st : Nat) (h : st ≤ pre.length) : cut (pre ++ c :: r) st (pre.length + 1) = cut (pre ++ c :: r) st pre.length ++ [c] := by
  unfold cut
  have hl : (pre.drop st).length = pre.length - st := List.length_drop
  rw [List.drop_append_of_le_length h, show pre.length + 1 - st = (pre.drop st).length + 1 from by omega, ← hl]
  generalize pre.drop st = X
  rw [List.take_left, List.take_length_add_append]
  rfl
theorem cut_self (os : List Nat) (a : Nat) : cut os a a = [] := by simp [cut]
theorem cut_end (os : List Nat) (st : Nat) : cut os st os.length = os.drop st := by
  unfold cut
  rw [List.take_of_length_le (by simp)]

theorem loop_keep : ∀ (rest pre : List Nat) (e : Bool) (st : Nat) (op : Option Nat) (res : List (List Nat)), openEnd rest e op.isSome = false → st ≤ pre.length → (∀ p, op = some p → st ≤ p ∧ p ≤ pre.length) →
    stripEnd (pre ++ rest) (stripLoop (pre ++ rest) (escItems rest pre.length e) st op res) = res.flatten ++ cut (pre ++ rest) st (op.getD pre.length) ++ keep rest e op.isSome
  | [], pre, e, st, op, res, ho, hst, hop => by
    cases op with
    | some p => simp [openEnd] at ho
    | none =>
      simp only [escItems, stripLoop, stripEnd, List.append_nil, Option.getD_none, keep, List.flatten_append]
      rw [cut_end]
      by_cases h : st < pre.length
      · rw [if_pos h]; simp
      · rw [if_neg h, List.drop_of_length_le (by omega)]; simp
  | c :: r, pre, e, st, op, res, ho, hst, hop => by
    have assoc : pre ++ c :: r = (pre ++ [c]) ++ r := by simp
    have hl : (pre ++ [c]).length = pre.length + 1 := by simp
    -- a sign that is no bare mark
    have plain : ∀ e', openEnd r e' op.isSome = false → stripEnd (pre ++ c :: r) (stripLoop (pre ++ c :: r) (escItems r (pre.length + 1) e') st op res) = res.flatten ++ cut (pre ++ c :: r) st (op.getD pre.length) ++ ((if op.isSome then [] else [c]) ++ keep r e' op.isSome) := by
      intro e' ho'
      have := loop_keep r (pre ++ [c]) e' st op res ho' (by omega) fun p hp => by have := hop p hp; omega
      rw [hl, ← assoc] at this
      rw [this]
      cases op with
      | some p => simp
      | none =>
        simp only [Option.getD_none, Option.isSome_none]
        rw [cut_snoc _ _ _ _ hst]
        simp
    cases e with
    | true =>
      simp only [escItems, stripLoop, keep]
      rw [if_neg (by simp)]
      exact plain false (by simpa [openEnd] using ho)
    | false =>
      by_cases h92 : c = 92
      · subst h92
        simp only [escItems, keep, if_true]
        exact plain true (by simpa [openEnd] using ho)
      · by_cases h34 : c = 34
        · subst h34
          simp only [escItems, h92, if_false, if_true, keep, stripLoop]
          cases op with
          | none =>
            have := loop_keep r (pre ++ [34]) false st (some pre.length) res (by simpa [openEnd] using ho) (by omega) fun p hp => by cases hp; omega
            rw [hl, ← assoc] at this
            simp only [this, Option.getD_some, Option.getD_none, Option.isSome_some, Option.isSome_none, Bool.not_false]
          | some p =>
            have hp := hop p rfl
            have := loop_keep r (pre ++ [34]) false (pre.length + 1) none (if st = p then res else res ++ [cut (pre ++ 34 :: r) st p]) (by simpa [openEnd] using ho) (by omega) fun p hp => nomatch hp
            rw [hl, ← assoc] at this
            simp only [this, Option.getD_some, Option.getD_none, Option.isSome_some, Option.isSome_none, Bool.not_true, cut_self, List.append_nil]
            by_cases q : st = p
            · subst q
              rw [if_pos rfl, cut_self, List.append_nil]
            · rw [if_neg q]; simp
        · simp only [escItems, h92, if_false, keep, stripLoop, h34]
          rw [if_neg (by simpa using h34)]
          exact plain false (by simpa [openEnd, h92, h34] using ho)

theorem keep_none : ∀ (os : List Nat) (e : Bool), 34 ∉ os → keep os e false = os
  | [], _, _ => rfl
  | c :: r, true, h => by simp [keep, keep_none r false (fun q => h (.tail _ q))]
  | c :: r, false, h => by
    have h34 : c ≠ 34 := by rintro rfl; exact h (.head _)
    by_cases h92 : c = 92
    · simp [keep, h92, keep_none r true (fun q => h (.tail _ q))]
    · simp [keep, h92, h34, keep_none r false (fun q => h (.tail _ q))]
theorem strip_keep {os : List Nat} (ho : openEnd os false false = false) : stripOf os = keep os false false := by
  unfold stripOf
  by_cases h : 34 ∈ os
  · rw [if_pos h]
    have := loop_keep os [] false 0 none [] ho (Nat.le_refl _) fun _ h => nomatch h
    simpa [cut_self] using this
  · rw [if_neg h, keep_none os false h]

/-- a word's letters -/
def Calm (w : List Nat) : Prop := ∀ c ∈ w, c ≠ 92 ∧ c ≠ 34
theorem calm_keep : ∀ (w r : List Nat) (o : Bool), Calm w → keep (w ++ r) false o = (if o then [] else w) ++ keep r false o ∧ openEnd (w ++ r) false o = openEnd r false o ∧ escEnd (w ++ r) false = escEnd r false
  | [], r, o, _ => by simp
  | c :: w, r, o, h => by
    obtain ⟨h1, h2, h3⟩ := calm_keep w r o fun x hx => h x (.tail _ hx)
    obtain ⟨n1, n2⟩ := h c (.head _)
    refine ⟨?_, ?_, ?_⟩
    · rw [List.cons_append, keep, if_neg n1, if_neg n2, h1]
      cases o <;> simp
    · rw [List.cons_append, openEnd, if_neg n1, if_neg n2, h2]
    · rw [List.cons_append, escEnd, decide_eq_false n1, h3]
theorem word_keep {w r : List Nat} {o : Bool} (h : Calm w) : keep ((w ++ [92, 34]) ++ r) false o = (if o then [] else (w ++ [92, 34])) ++ keep r false o ∧ openEnd ((w ++ [92, 34]) ++ r) false o = openEnd r false o ∧ escEnd ((w ++ [92, 34]) ++ r) false = escEnd r false := by
  obtain ⟨h1, h2, h3⟩ := calm_keep w (92 :: 34 :: r) o h
  rw [List.append_assoc, show [92, 34] ++ r = 92 :: 34 :: r from rfl, h1, h2, h3]
  refine ⟨?_, ?_, ?_⟩
  · simp only [keep, if_true]
    cases o <;> simp
  · simp [openEnd]
  · simp [escEnd]
theorem toNats_append (a b : List Int) : toNats (a ++ b) = toNats a ++ toNats b := by simp [toNats]
theorem word_nats {l : Int} (h : 0 ≤ l ∧ l < 256) : ∃ w, Calm w ∧ toNats (wordOf l) = w ++ [92, 34] := by
  refine ⟨toNats ((apOf l).map fun c => (c.toNat : Int)), fun c hc => ?_, ?_⟩
  · obtain ⟨x, hx, rfl⟩ := List.mem_map.mp hc
    have := (word_facts h).2.2 x hx
    omega
  · rw [wordOf, toNats_append]; rfl

theorem mod_add (a f s : Int) : ((a + f) % 2 + s) % 2 = (a + (f + s)) % 2 := by omega
theorem marks_keep : ∀ {labels figs : List Int} (a : Int), (∀ l ∈ labels, 0 ≤ l ∧ l < 256) → figs.length = labels.length → (∀ f ∈ figs, f = 0 ∨ f = 1) → (a = 0 ∨ a = 1) → ∀ (r : List Nat),
    keep (toNats (marks ((labels.map wordOf).zip figs)) ++ r) false (decide (a = 1)) = toNats (keptOct labels (par a figs)) ++ keep r false (decide ((a + figs.sum) % 2 = 1)) ∧
    openEnd (toNats (marks ((labels.map wordOf).zip figs)) ++ r) false (decide (a = 1)) = openEnd r false (decide ((a + figs.sum) % 2 = 1)) ∧
    escEnd (toNats (marks ((labels.map wordOf).zip figs)) ++ r) false = escEnd r false
  | [], [], a, _, _, _, ha, r => by
    have e : (a + ([] : List Int).sum) % 2 = a := by simp; omega
    simp only [e, List.map_nil, List.zip_nil_left, par]
    exact ⟨rfl, rfl, rfl⟩
  | [], _ :: _, _, _, h, _, _, _ => by simp at h
  | _ :: _, [], _, _, h, _, _, _ => by simp at h
  | l :: labels, f :: figs, a, hb, hl, h01, ha, r => by
    obtain ⟨i1, i2, i3⟩ := @marks_keep labels figs ((a + f) % 2) (fun x hx => hb x (.tail _ hx)) (by simpa using hl) (fun x hx => h01 x (.tail _ hx)) (by omega) r
    obtain ⟨w, hw, ew⟩ := word_nats (hb l (.head _))
    obtain ⟨w1, w2, w3⟩ := @word_keep w (toNats (marks ((labels.map wordOf).zip figs)) ++ r) (decide ((a + f) % 2 = 1)) hw
    rw [List.map_cons, List.zip_cons_cons, marks_cons, mk, List.sum_cons, ← mod_add]
    simp only [toNats_append, ew, par, kept_cons]
    have hk : (if decide ((a + f) % 2 = 1) = true then [] else w ++ [92, 34]) = toNats (if (a + f) % 2 = 0 then wordOf l else []) := by
      by_cases q : (a + f) % 2 = 1
      · rw [if_pos (decide_eq_true q), if_neg (by omega)]; rfl
      · rw [if_neg (by simpa using q), if_pos (by omega), ew]
    rw [i1, hk] at w1
    rw [i2] at w2
    rw [i3] at w3
    rcases h01 f (.head _) with rfl | rfl
    · rw [if_pos rfl]
      have e : (a + 0) % 2 = a := by omega
      simp only [e] at w1 w2 w3 ⊢
      refine ⟨?_, ?_, ?_⟩
      · simpa [toNats, List.append_assoc] using w1
      · simpa [toNats, List.append_assoc] using w2
      · simpa [toNats, List.append_assoc] using w3
    · rw [if_neg (by decide)]
      have e : decide ((a + 1) % 2 = 1) = !decide (a = 1) := by
        rcases ha with rfl | rfl <;> decide
      rw [e] at w1 w2
      refine ⟨?_, ?_, ?_⟩
      · simpa [toNats, List.append_assoc, keep] using w1
      · simpa [toNats, List.append_assoc, openEnd] using w2
      · simpa [toNats, List.append_assoc, escEnd] using w3

theorem line_keep {labels figs : List Int} (hb : ∀ l ∈ labels, 0 ≤ l ∧ l < 256) (hl : figs.length = labels.length) (h01 : ∀ f ∈ figs, f = 0 ∨ f = 1) :
    escEnd (toNats (lineOf (labels.map wordOf) figs)) false = false ∧ stripOf (toNats (lineOf (labels.map wordOf) figs)) = toNats (keptOct labels (par 0 figs)) := by
  have key := fun r => marks_keep (labels := labels) (figs := figs) 0 hb hl h01 (.inl rfl) r
  rw [lineOf, toNats_append]
  by_cases q : figs.sum % 2 = 1
  · rw [if_pos q]
    obtain ⟨k1, k2, k3⟩ := key (toNats [34])
    have e : decide ((0 + figs.sum) % 2 = 1) = true := by rw [Int.zero_add]; exact decide_eq_true q
    rw [e] at k1 k2
    refine ⟨k3.trans (by decide), ?_⟩
    rw [strip_keep (k2.trans (by decide))]
    refine k1.trans ?_
    rw [show keep (toNats [34]) false true = [] from by decide, List.append_nil]
  · rw [if_neg q]
    obtain ⟨k1, k2, k3⟩ := key (toNats [])
    have e : decide ((0 + figs.sum) % 2 = 1) = false := by rw [Int.zero_add]; exact decide_eq_false q
    rw [e] at k1 k2
    refine ⟨k3.trans (by decide), ?_⟩
    rw [strip_keep (k2.trans (by decide))]
    refine k1.trans ?_
    rw [show keep (toNats []) false false = [] from by decide, List.append_nil]

theorem strip_line {labels fs : List Int} {i : Nat} (hi : i < 5) (hl : fs.length = labels.length) (h7 : labels.length ≤ 7) (hb : ∀ l ∈ labels, 0 ≤ l ∧ l < 256) (h01 : ∀ f ∈ fs, f = 0 ∨ f = 1) :
    escEnd (toNats (lineOf (labels.map wordOf) (figsAt fs i))) false = false ∧ stripOf (toNats (lineOf (labels.map wordOf) (figsAt fs i))) = toNats (keptOct labels (struckOf fs ((i + 1 : Nat) : Int))) := by
  obtain ⟨f1, f2⟩ := figs_facts i h01
  rw [par_struck (by omega) h01 hi]
  exact line_keep hb (f1.trans hl) f2
theorem keptOct_nil : keptOct [] [] = [] := rfl
theorem kept_step {labels gone : List Int} {j : Nat} {l g : Int} (h1 : labels[j]? = some l) (h2 : gone[j]? = some g) : keptOct (labels.take (j + 1)) (gone.take (j + 1)) = keptOct (labels.take j) (gone.take j) ++ (if g = 0 then wordOf l else []) := by
  have hj1 := (List.getElem?_eq_some_iff.mp h1).1
  have hj2 := (List.getElem?_eq_some_iff.mp h2).1
  unfold keptOct
  rw [List.take_add_one, List.take_add_one, h1, h2]
  rw [List.zip_append (by rw [List.length_take, List.length_take]; omega), List.filter_append, List.flatMap_append]
  congr 1
  by_cases h : g = 0 <;> simp [h]

-- R8

section
variable {M : Model} {A : Around} {E : Value → Shared → Prop} {s : Shared} {K : Frag} {h₀ : Heap} {L C : Addr} {m mg mb : Str → Option Value} {scope : Scope} {cl : List (Str × Addr)} {env : Env} {p : Program} {loose : List Str} {x : Str} {pos : Pos} {v : Value} {Q : Value → Shared → Prop}
theorem ldB (F : Fr h₀ L s.heap m) (X : K.In h₀) (T : TopRead p loose mg mb h₀) (e : nsIn K mainGlobals x = some none) (hv : bootBuiltins x = some v) (hn : x ≠ "__name__") (h : Q v s) (hg : env.globals = mainGlobals := by rfl) (hb : env.builtins = builtinsNs := by rfl)
    (hk : (compEnvC scope cl C env).scope.kind = .function := by rfl) (hx : (compEnvC scope cl C env).kindOf x = some .globalImplicit := by rfl) (hd : (x == ("__debug__" : Str)) = false := by decide) :
    wpAny M A (eval (.Name x pos) (compEnvC scope cl C env)) Q E s :=
  Name_function_global hk hx (loadGlobal_builtin (env := compEnvC scope cl C env) (show s.heap.Ns env.globals mg from hg ▸ T.g.keeps F.keep) (mg_none_of X T.g e) (show s.heap.Ns env.builtins mb from hb ▸ T.b.keeps F.keep) ((T.builtins x hn).trans hv) h) hd
end

theorem WL.inner {wl : List (Addr × Obj)} : ∀ {vs : List Value} {ws : List (List Int)}, WL wl vs ws → ∃ inner : Nat → List Value, ∀ (i : Nat) (v : Value), vs[i]? = some v → ∃ a n wd, v = .ref a ∧ (a, W.listOf (inner i).toArray n) ∈ wl ∧ IntsAre (inner i) wd ∧ ws[i]? = some wd
  | _, _, .nil => ⟨fun _ => [], fun i v e => by simp at e⟩
  | _, _, .cons (a := a) (us := us) x y z => by
    obtain ⟨inner, h⟩ := WL.inner z
    refine ⟨fun i => match i with | 0 => us | j + 1 => inner j, fun i v e => ?_⟩
    cases i with
    | zero => simp at e; exact ⟨a, _, _, e.symm, x, y, rfl⟩
    | succ j => simpa using h j v (by simpa using e)

theorem strs_take {ws : List Value} {l : List Int} {j : Nat} {b : Int} {t : Tok} (h : StrsAre ws ((l.take j).map fun c => ⟨#[c.toNat]⟩)) (e : l[j]? = some b) : StrsAre (ws ++ [.str ⟨#[b.toNat]⟩ t]) ((l.take (j + 1)).map fun c => ⟨#[c.toNat]⟩) := by
  rw [List.take_add_one, e, List.map_append]
  exact strs_snoc _ _ h
theorem join_chars (l : List Int) : Txt.join ⟨#[]⟩ (l.map fun c => ⟨#[c.toNat]⟩) = ⟨(toNats l).toArray⟩ := by
  have e : (l.map fun c => [c.toNat]).flatten = toNats l := by
    unfold toNats
    induction l with
    | nil => rfl
    | cons a r ih => simp only [List.map_cons, List.flatten_cons]; rw [ih]; rfl
  have := join_flat (l.map fun c => [c.toNat])
  rw [List.map_map, e] at this
  exact this
theorem chars_weight {l : List Int} (h : l.length ≤ 1000) : (((l.map fun c => (⟨#[c.toNat]⟩ : Str)).map (·.length)).sum + (l.map fun c => (⟨#[c.toNat]⟩ : Str)).length ≤ 1048576) := by
  rw [List.map_map, List.length_map]
  have := sum_le (fun c : Int => (Str.length ⟨#[c.toNat]⟩)) 1 l fun _ _ => Nat.le_refl _
  have h2 : (List.map ((fun x : Str => x.length) ∘ fun c : Int => (⟨#[c.toNat]⟩ : Str)) l).sum ≤ l.length * 1 := this
  omega
theorem bare_push {g : Array GenState} (h : AllBare g) : AllBare (g.push .finished) := by
  intro x hx
  rcases Array.mem_push.mp hx with hx | rfl
  · exact h x hx
  · rfl

theorem in_ints {prog : Program} {w : World} {A : Around} {E : Value → Shared → Prop} {s : Shared} {l : Addr} {vs : List Value} {ns : List Int} {n : Nat} {k : Int} {t : Tok} {Q : Value → Shared → Prop}
    (hl : s.heap.get? l = some (W.listOf vs.toArray n)) (hi : IntsAre vs ns) (h : Q (.bool (ns.contains k)) s) : wpAny (model prog w) A (compareOp .In (.int k t) (.ref l)) Q E s := by
  refine SeqRoads2.in_list (items := vs.toArray) (n := n) (fun y => match y with | .int i _ => i == k | _ => false) (fun y hy => ?_) hl ?_
  · obtain ⟨a, u, rfl⟩ := hi.allInts y hy
    exact MeetsSeq.EqGives.int a k u t
  · have e := any_ints k vs fun v hv => hi.allInts v (by simpa using hv)
    rw [hi.numsOf] at e
    refine Eq.mp (congrArg (fun b => Q (.bool b) s) ?_) h
    symm
    rw [← Array.any_toList]
    exact e

theorem round_spec {w : World} {A : Around} {E : Value → Shared → Prop} {s : Shared} {p : Program} {loose : List Str} {mg mb : Str → Option Value} {Q : Flow → Shared → Prop} {h₀ : Heap} {L : Addr} {m : Str → Option Value} (G : Gd w p loose mg mb h₀) (hdp : A.depth < 750) (hun : A.units < 5000)
  (hh : A.handled = none)
  {name qual : Str} {params : Arguments} {body : List Stmt} {scope : Scope} {dV kV doc pm cdv ct oc : Value} {an od : Option Addr} {osl : Array (Option Value)}
  (ho : (Mine.hd.heap_39 w.params).lookup 76 = some ⟨oc, od, .func (fnOf name qual params body scope dV kV doc pm an cdv ct), osl⟩)
  {Led : List (Addr × Obj)} {D1 D2 D3 : Addr} {ys zs qs : List Value} {fs labels : List Int} (T : Tail h₀ L Led D1 D2 D3 ys zs qs fs labels)
  {i : Nat} (hi : i < 5) {g0 g : Array GenState} {DF : Addr} {fv : List Value} {oc1 : Obj} {v₀ : Option Value} {I : Addr} {oI : Obj} {h : Heap} {tk : Nat} {t' : Tok}
  (hg : AllBare g0 → AllBare g) (m1 : m "start" = some (.ref D1)) (m2 : m "words" = some (.ref D2)) (m3 : m "numbers" = some (.ref D3)) (m4 : m "figures" = some (.ref DF)) (m5 : m "turn" = some (.int ((i + 1 : Nat) : Int) t'))
  (hoc : oc1.data = .cell v₀) (hdf : DF ≠ L + 1) (hfv : IntsAre fv (figsAt fs i))
  (F : Fr h₀ L h m) (N : News h₀ L h ((I, oI) :: (DF, LCg.lst fv) :: (L + 1, oc1) :: Led)) (off : ∀ q ∈ (DF, LCg.lst fv) :: (L + 1, oc1) :: Led, q.1 ≠ I) :
  wpAny (model PG w) A (execs (forBody (body.drop 5)) (envOfC qual scope L 76 cdv)) (RStep h₀ L (RJ g0 L Led D1 D2 D3 fs) i I oI s Q) E { s with heap := h, gens := g, toks := tk } := by
  have e := ho
  rw [show (Mine.hd.heap_39 w.params).lookup 76 = some ⟨_, _, .func (fnOf _ _ _ _ _ _ _ _ _ _ _ _), _⟩ from rfl] at e
  cases e
  clear ho
  have X' := G.k
  have T' := G.t
  have mm : m = fun (z : Str) => if z = "start" then some (.ref D1) else if z = "words" then some (.ref D2) else if z = "numbers" then some (.ref D3) else if z = "figures" then some (.ref DF) else if z = "turn" then some (.int ((i + 1 : Nat) : Int) t') else m z := by
    funext z
    by_cases e1 : z = "start"
    · rw [if_pos e1, e1, m1]
    · rw [if_neg e1]
      by_cases e2 : z = "words"
      · rw [if_pos e2, e2, m2]
      · rw [if_neg e2]
        by_cases e3 : z = "numbers"
        · rw [if_pos e3, e3, m3]
        · rw [if_neg e3]
          by_cases e4 : z = "figures"
          · rw [if_pos e4, e4, m4]
          · rw [if_neg e4]
            by_cases e5 : z = "turn"
            · rw [if_pos e5, e5, m5]
            · rw [if_neg e5]
  rw [mm] at F
  simp only [List.drop, forBody]
  have hb : ∀ l ∈ labels, 0 ≤ l ∧ l < 256 := fun l hl => by
    obtain ⟨k, hk⟩ := List.getElem?_of_mem hl
    obtain ⟨j, h0, h1, rfl⟩ := T.lab k l hk
    have := (List.getElem?_eq_some_iff.mp hk).1
    have := T.hi
    omega
  obtain ⟨hfl, hf01⟩ := figs_facts i T.f01
  have hll := line_len (labels := labels) (figs := figsAt fs i) T.hi
  generalize hfg : figsAt fs i = fg at *
  iterate 9 walk1
  rename Fr _ _ _ _ => F9
  rename News _ _ _ _ => N9
  refine Calls.spliced_nil ?_
  refine ⟨G.k.keeps F9.keep, ?_⟩
  have led : ∀ q ∈ Led, h.get? q.1 = some q.2 := fun q hq => (N9 q (.tail _ (.tail _ (.tail _ hq)))).1
  refine line_spec (G.keeps F9.keep) (Nat.lt_trans hdp (by decide)) hh ⟨_, led _ T.i2⟩ ⟨_, (N9 _ (.tail _ (.head _))).1⟩ (T.a2.lists led) hfv (by rw [List.length_map, hfl, T.len]) hf01 (by omega) fun DL h2 tk2 lv hk2 hDLn hDL hlv => ?_
  obtain ⟨nl, hDL⟩ := hDL
  have N' := add_new F9 N9 hk2 hDLn hDL
  have F' := F9.keeps hk2
  clear F9 N9 led
  obtain ⟨cs, hcs1, hcs2, hcs3⟩ := line_chunks (figs := fg) (by rw [hfl, T.len]) hb hf01
  have hLlen : (lineOf (labels.map wordOf) fg).length ≤ 101 := by
    unfold lineOf
    rw [List.length_append]
    split <;> simp <;> omega
  iterate 9 walk1
  rename Fr _ _ _ _ => F9
  rename News _ _ _ _ => N9
  refine Calls.spliced_nil ?_
  refine ⟨G.k.keeps F9.keep, ?_⟩
  refine numbers_spec (G.keeps F9.keep) (Nat.lt_trans hdp (by decide)) hh ⟨nl, (N9 _ (.head _)).1⟩ (by rw [hcs1]; exact hlv) hcs2 (by rw [hcs1]; omega) fun DK h3 tk3 kv hk3 hDKn hDK hkv => ?_
  obtain ⟨nk, hDK⟩ := hDK
  have N' := add_new F9 N9 hk3 hDKn hDK
  have F' := F9.keeps hk3
  clear F9 N9
  iterate 4 walk1
  rename Fr _ _ _ _ => F9
  rename News _ _ _ _ => N9
  refine LCg.ListComp_U F9 (by with_unfolding_all rfl) (by decide) (by rfl) (by decide) (by rfl) ?_
  walk1
  refine LCg.CompSrc.ledger (by exact hh) F9 N9 (.tail _ (.tail _ (.tail _ (.tail _ (.tail _ T.i3))))) (by rw [List.size_toArray, sizeLine_eq, T.a3.length, List.length_map]; have := T.hi; omega) fun g2 => ?_
  generalize hLedA : (DK, W.listOf kv.toArray nk) :: (DL, W.listOf lv.toArray nl) :: (I, oI) :: (DF, LCg.lst fv) :: (L + 1, oc1) :: Led = LA at N9 ⊢
  have hi3 : (D3, LCg.lst qs) ∈ LA := by rw [← hLedA]; exact .tail _ (.tail _ (.tail _ (.tail _ (.tail _ T.i3))))
  refine rest_inv (fun k j ws news => k = qs.length - j ∧ ∃ wl, news = wl ++ LA ∧ WL wl ws ((labels.map fun l => [numOf' l]).take j)) ?z1 ?s1 _ _ _ _ ⟨by simp, [], rfl, .nil⟩
  case s1 =>
    rintro k j ws news ⟨hk, wl, rfl, hwl⟩ v I2 oI2 C oC D m₂ h4 tk4 E' hP hC' hx' F' N' off2
    obtain ⟨b, t, rfl, hb2⟩ := T.a3.at j v (by simpa using hP)
    iterate 5 walk1
    rename_i Dx hx F9 N9 lx
    refine LCg.CompEnd.intro F9 N9 ((Dx, W.listOf [Value.int b t].toArray 0) :: (wl ++ LA)) (fun q hq => ?_) ⟨⟨Nat.ne_of_gt lx.1, Nat.ne_of_gt lx.2.1, Nat.ne_of_gt lx.2.2.1⟩, off2⟩
      (.inr ⟨_, .tail _ (List.mem_append_right _ hi3), rfl, _, rfl⟩) ⟨by omega, (Dx, W.listOf [Value.int b t].toArray 0) :: wl, rfl, ?_⟩
    · rcases List.mem_cons.mp hq with rfl | hq
      · exact .tail _ (.head _)
      · rcases List.mem_cons.mp hq with rfl | hq
        · exact .tail _ (.tail _ (.head _))
        · rcases List.mem_cons.mp hq with rfl | hq
          · exact .tail _ (.tail _ (.tail _ (.head _)))
          · rcases List.mem_cons.mp hq with rfl | hq
            · exact .head _
            · exact .tail _ (.tail _ (.tail _ (.tail _ hq)))
    · rw [List.getElem?_map] at hb2
      obtain ⟨lb, hlb, rfl⟩ := Option.map_eq_some_iff.mp hb2
      rw [List.take_add_one, List.getElem?_map, hlb]
      exact (hwl.mono fun _ => .tail _).snoc (.head _) (.cons _ _ .nil)
  rintro j ws news ⟨hk, wl, rfl, hwl⟩ D5 h5 tk5 F' N' o5
  rw [List.take_of_length_le (by rw [List.length_map]; have := T.a3.length; rw [List.length_map] at this; omega)] at hwl
  subst hLedA
  iterate 2 walk1
  rename Fr _ _ _ _ => F9
  rename News _ _ _ _ => N9
  refine Calls.spliced_nil ?_
  refine ⟨G.k.keeps F9.keep, ?_⟩
  have hnl := num_len (labels := labels) (figs := fg) T.hi
  refine line_spec (G.keeps F9.keep) (Nat.lt_trans hdp (by decide)) hh ⟨_, (N9 _ (.head _)).1⟩ ⟨_, (N9 _ (.tail _ (List.mem_append_right _ (.tail _ (.tail _ (.tail _ (.head _))))))).1⟩ (hwl.lists fun q hq => (N9 q (.tail _ (List.mem_append_left _ hq))).1) hfv (by rw [List.length_map, hfl, T.len]) hf01 (by omega) fun DR h6 tk6 rv hk6 hDRn hDR hrv => ?_
  obtain ⟨nr, hDR⟩ := hDR
  have N' := add_new F9 N9 hk6 hDRn hDR
  have F' := F9.keeps hk6
  clear F9 N9
  rename Fr _ _ _ _ => F9
  rename News _ _ _ _ => N9
  refine ne_intsK (News.isList N9 (.tail _ (.tail _ (List.mem_append_right _ (.head _))))) hkv (News.isList N9 (.head _)) hrv (Nat.lt_trans (Nat.add_lt_add_right hun 64) (by decide)) ?_
  rw [decide_eq_true hcs3]
  iterate 14 walk1
  rename Fr _ _ _ _ => F8
  have NB : News h₀ L h6 ((DL, W.listOf lv.toArray nl) :: (I, oI) :: (DF, LCg.lst fv) :: (L + 1, oc1) :: Led) := PN.sub N9 fun q hq => .tail _ (.tail _ (List.mem_append_right _ (.tail _ hq)))
  clear N9
  have hoct := line_oct (figs := fg) hb
  generalize hLN : lineOf (labels.map wordOf) fg = LN at *
  refine LCg.ListComp_U F8 (by with_unfolding_all rfl) (by decide) (by rfl) (by decide) (by rfl) ?_
  walk1
  refine LCg.CompSrc.ledger (by exact hh) F8 NB (.head _) (by rw [List.size_toArray, sizeLine_eq, hlv.length]; omega) fun g7 => ?_
  refine rest_inv (fun k j ws news => k = lv.length - j ∧ news = (DL, W.listOf lv.toArray nl) :: (I, oI) :: (DF, LCg.lst fv) :: (L + 1, oc1) :: Led ∧ StrsAre ws ((LN.take j).map fun c => ⟨#[c.toNat]⟩)) ?z2 ?s2 _ _ _ _ ⟨by simp, rfl, .nil⟩
  case s2 =>
    rintro k j ws news ⟨hk, rfl, hws⟩ v I2 oI2 C oC D m₂ h4 tk4 E' hP hC' hx' F' N' off2
    obtain ⟨b, t, rfl, hb2⟩ := hlv.at j v (by simpa using hP)
    obtain ⟨hbo0, hbo1⟩ := hoct b (List.mem_of_getElem? hb2)
    iterate 2 walk1
    refine ldB F' X' T' (by k_is) boot_chr (by decide) ?_
    iterate 3 walk1
    refine Calls.spliced_nil ?_
    refine chr_of_range hbo0 (by omega) ?_
    exact LCg.CompEnd.intro F' N' _ (fun _ h => h) off2 (.inr ⟨_, .head _, rfl, _, rfl⟩) ⟨by omega, rfl, strs_take hws hb2⟩
  rintro j ws news ⟨hk, rfl, hws⟩ DC h7 tk7 F' N' o5
  rw [List.take_of_length_le (by have := hlv.length; omega)] at hws
  iterate 1 walk1
  rename Fr _ _ _ _ => F9
  rename News _ _ _ _ => N9
  refine join_listW (News.isList N9 (.head _)) hws (by decide) (chars_weight (by omega)) fun t7 k7 => ?_
  rw [show (Str.ofString "") = ⟨#[]⟩ from by decide, join_chars]
  refine Calls.spliced_nil ?_
  refine ⟨G.k.keeps F9.keep, ?_⟩
  obtain ⟨hsend, hstrip⟩ := strip_line hi T.len T.hi hb T.f01
  rw [hfg, hLN] at hsend hstrip
  refine strip_spec (G.keeps F9.keep) (Nat.lt_trans hdp (by decide)) hh (fun c hc => by
      obtain ⟨d, hd, rfl⟩ := List.mem_map.mp hc
      have := hoct d hd
      omega) (by rw [toNats, List.length_map]; omega) hsend fun h8 g8 tk8 t8 hk8 hg8 => ?_
  rw [hstrip]
  have F' := F9.keeps hk8
  have N' := N9.grown hk8
  clear F9 N9 F8 NB
  have hgg : AllBare g0 → AllBare g8 := fun x => by
    rcases hg8 with rfl | rfl
    · exact hg x
    · exact bare_push (hg x)
  clear hg8
  iterate 11 walk1
  rename Fr _ _ _ _ => F9
  rename News _ _ _ _ => N9
  refine Calls.spliced_nil ?_
  refine ⟨G.k.keeps F9.keep, ?_⟩
  refine struck_spec (G.keeps F9.keep) (Nat.lt_trans hdp (by decide)) hh ⟨_, (N9 _ (.tail _ (.tail _ (.tail _ (.tail _ (.tail _ T.i1)))))).1⟩ T.a1 (by rw [T.len]; exact T.hi) (by omega) (by omega) fun DS h9 tk9 sv hk9 hDSn hDS hsv => ?_
  obtain ⟨nsv, hDS⟩ := hDS
  have N' := add_new F9 N9 hk9 hDSn hDS
  have F' := F9.keeps hk9
  clear F9 N9
  iterate 2 walk1
  rename Fr _ _ _ _ => F9
  rename News _ _ _ _ => N9
  obtain ⟨inner, hinn⟩ := T.a2.inner
  have hgl : (struckOf fs ((i + 1 : Nat) : Int)).length = labels.length := by rw [struckOf, List.length_map, List.length_range, T.len]
  have hzl : zs.length = labels.length := by rw [T.a2.length, List.length_map]
  have hsl : sv.length = labels.length := by rw [hsv.length]; exact hgl
  generalize hgo : struckOf fs ((i + 1 : Nat) : Int) = gone at *
  refine Assign_comp2 (by with_unfolding_all rfl) (by with_unfolding_all rfl) (by rfl) (by decide) (by rfl) ?_
  iterate 7 walk1
  refine Calls.spliced_nil ?_
  have g01 : ∀ f ∈ gone, f = 0 ∨ f = 1 := by rw [← hgo]; exact struck_01 _ _
  have hmin : min zs.toArray.size sv.toArray.size = labels.length := by rw [List.size_toArray, List.size_toArray, hzl, hsl, Nat.min_self]
  refine comp2_zip (h₀ := h₀) (L := L) hh (by decide) (by rfl) (by rfl) (by rfl) (by rfl) (by decide) (by decide) F9 N9
    (.inr ⟨_, .tail _ (.tail _ (.tail _ (.tail _ (.tail _ (.tail _ T.i2))))), rfl, _, rfl⟩) (.inr ⟨_, .head _, rfl, _, rfl⟩) (fun j => (inner j).toArray) ?hin (fun j => decide (gone.getD j 0 = 0))
    (fun j k ws => StrsAre ws ((keptOct (labels.take j) (gone.take j) ++ (if gone.getD j 0 = 0 then (wordOf (labels.getD j 0)).take k else [])).map fun c => ⟨#[c.toNat]⟩)) ?hkl ?hk0 ?test ?skip ?ends ?elt ?fin
  case hin =>
    intro j v0 e
    obtain ⟨a, n, wd, rfl, hm, hi2, hwd⟩ := hinn j v0 (by simpa using e)
    exact ⟨a, rfl, .inr ⟨_, .tail _ (.tail _ (.tail _ (.tail _ (.tail _ (.tail _ hm))))), rfl, _, rfl⟩⟩
  case hkl =>
    intro j k ws hws
    have h1 := strs_length hws
    rw [List.length_map, List.length_append] at h1
    have h2 := kept_len (labels := labels.take j) (gone := gone.take j) (by rw [List.length_take]; have := T.hi; omega)
    have h3 : (if gone.getD j 0 = 0 then (wordOf (labels.getD j 0)).take k else []).length ≤ 4 := by
      split
      · rw [List.length_take]; have := word_len (labels.getD j 0); omega
      · exact Nat.zero_le _
    omega
  case hk0 =>
    simp only [List.take_zero, keptOct_nil, ite_self, List.append_nil, List.map_nil]
    exact .nil
  case test =>
    intro j v0 v1 C oC m₂ h4 tk4 E' hx hy F' hC' N' e1 e2
    obtain ⟨gv, tg, rfl, hgv⟩ := hsv.at j v1 (by simpa using hy)
    iterate 5 walk1
    have eg : gone.getD j 0 = gv := by simp [List.getD_eq_getElem?_getD, hgv]
    exact ⟨by rw [eg]; rfl, _, rfl⟩
  case skip =>
    intro j ws hj hp hK
    rw [hmin] at hj
    obtain ⟨lb, hlb⟩ : ∃ lb, labels[j]? = some lb := ⟨_, List.getElem?_eq_getElem hj⟩
    obtain ⟨gv, hgv⟩ : ∃ gv, gone[j]? = some gv := ⟨_, List.getElem?_eq_getElem (by rw [hgl]; exact hj)⟩
    have eg : gone.getD j 0 = gv := by simp [List.getD_eq_getElem?_getD, hgv]
    rw [eg] at hp hK
    have hg0 : gv ≠ 0 := by simpa using hp
    rw [if_neg hg0, List.append_nil] at hK
    rw [kept_step hlb hgv, if_neg hg0, List.append_nil, List.take_zero, ite_self, List.append_nil]
    exact hK
  case ends =>
    intro j ws hj hp hK
    rw [hmin] at hj
    obtain ⟨lb, hlb⟩ : ∃ lb, labels[j]? = some lb := ⟨_, List.getElem?_eq_getElem hj⟩
    obtain ⟨gv, hgv⟩ : ∃ gv, gone[j]? = some gv := ⟨_, List.getElem?_eq_getElem (by rw [hgl]; exact hj)⟩
    have eg : gone.getD j 0 = gv := by simp [List.getD_eq_getElem?_getD, hgv]
    have el : labels.getD j 0 = lb := by simp [List.getD_eq_getElem?_getD, hlb]
    rw [eg] at hp hK
    have hg0 : gv = 0 := by simpa using hp
    obtain ⟨a, n, wd, _, _, hi2, hwd⟩ := hinn j _ (List.getElem?_eq_getElem (by rw [hzl]; exact hj))
    rw [List.getElem?_map, hlb] at hwd
    cases hwd
    rw [if_pos hg0, el, List.take_of_length_le (l := wordOf lb) (by rw [List.size_toArray, hi2.length]; exact Nat.le_refl _)] at hK
    rw [kept_step hlb hgv, if_pos hg0, List.take_zero, ite_self, List.append_nil]
    exact hK
  case elt =>
    intro j k u C oC m₂ h4 tk4 E' hj hp hu F' hC' N' e1
    rw [hmin] at hj
    obtain ⟨lb, hlb⟩ : ∃ lb, labels[j]? = some lb := ⟨_, List.getElem?_eq_getElem hj⟩
    have el : labels.getD j 0 = lb := by simp [List.getD_eq_getElem?_getD, hlb]
    obtain ⟨a, n, wd, _, _, hi2, hwd⟩ := hinn j _ (List.getElem?_eq_getElem (by rw [hzl]; exact hj))
    rw [List.getElem?_map, hlb] at hwd
    cases hwd
    obtain ⟨b, tb, rfl, hb3⟩ := hi2.at k u (by simpa using hu)
    obtain ⟨hbo0, hbo1⟩ := word_oct (hb lb (List.mem_of_getElem? hlb)) b (List.mem_of_getElem? hb3)
    iterate 2 walk1
    refine ldB F' X' T' (by k_is) boot_chr (by decide) ?_
    iterate 3 walk1
    refine Calls.spliced_nil ?_
    refine chr_of_range hbo0 (by omega) ⟨⟨_, rfl⟩, fun ws hK => ?_⟩
    have hg0 : gone.getD j 0 = 0 := by simpa using hp
    rw [if_pos hg0, el] at hK ⊢
    rw [List.take_add_one (l := wordOf lb), hb3, ← List.append_assoc, List.map_append]
    exact strs_snoc _ _ hK
  case fin =>
    intro DD C h4 tk4 m' ws F' N' offD hns' oC hK
    show compPost _ _ _ _ _ _ _ _ _
    refine comp2_fin rfl (by rfl) (by rfl) F' N' hns' oC fun h5 tk5 F' N' => ?_
    rw [hmin] at hK
    have hws2 : StrsAre ws ((keptOct labels gone).map fun c => ⟨#[c.toNat]⟩) := by
      have e1 : labels.take labels.length = labels := List.take_length
      have e2 : gone.take labels.length = gone := by rw [← hgl]; exact List.take_length
      rw [e1, e2, List.take_zero, ite_self, List.append_nil] at hK
      exact hK
    clear hK
    have hkl := kept_len (labels := labels) (gone := gone) T.hi
    clear F9 N9 hns' oC offD
    iterate 11 walk1
    rename Fr _ _ _ _ => F9
    rename News _ _ _ _ => N9
    refine join_listW (News.isList N9 (.head _)) hws2 (by decide) (chars_weight (by omega)) fun t9 k9 => ?_
    rw [join_chars]
    iterate 1 walk1
    rw [bne_self_eq_false]
    iterate 9 walk1
    rename Fr _ _ _ _ => F8
    have NB : News h₀ L h5 ((DL, W.listOf lv.toArray nl) :: (I, oI) :: (DF, LCg.lst fv) :: (L + 1, oc1) :: Led) := PN.sub N9 fun q hq => .tail _ (.tail _ (.tail _ hq))
    clear N9
    have hko : ∀ c ∈ keptOct labels gone, 0 ≤ c ∧ c < 128 := fun c hc => by
      obtain ⟨q, hq, hc⟩ := List.mem_flatMap.mp hc
      exact word_oct (hb q.1 (List.of_mem_zip (List.mem_filter.mp hq).1).1) c hc
    refine ListComp_str F8 (by with_unfolding_all rfl) (by decide) (by rfl) (by decide) (by rfl) ?_
    walk1
    refine ⟨_, _, _, rfl, ?hasc, by exact hh, F8, NB, ?hsz, ?_⟩
    case hasc =>
      simp only [List.all_toArray, List.all_eq_true, decide_eq_true_eq]
      intro c hc
      obtain ⟨d, hd, rfl⟩ := List.mem_map.mp hc
      have := hko d hd
      omega
    case hsz =>
      rw [List.size_toArray, toNats, List.length_map, sizeLine_eq]; omega
    rintro s₂ ⟨g7, rfl⟩
    refine rest_inv (fun k j ks news => k = (keptOct labels gone).length - j ∧ news = (DL, W.listOf lv.toArray nl) :: (I, oI) :: (DF, LCg.lst fv) :: (L + 1, oc1) :: Led ∧ IntsAre ks ((keptOct labels gone).take j)) ?z3 ?s3 _ _ _ _ ⟨by simp [toNats], rfl, .nil⟩
    case s3 =>
      rintro k j ks news ⟨hk, rfl, hks⟩ v3 I3 oI3 C3 oC3 D3' m3 h8 tk8 E8 ⟨c8, u8, hc8, rfl⟩ hC8 hx8 F' N' off3
      iterate 2 walk1
      refine ldB F' X' T' (by k_is) boot_ord (by decide) ?_
      iterate 3 walk1
      refine Calls.spliced_nil ?_
      refine P.ord_of_char ?_
      have hc9 : (toNats (keptOct labels gone))[j]? = some c8 := by simpa using hc8
      rw [toNats, List.getElem?_map] at hc9
      obtain ⟨d, hd, rfl⟩ := Option.map_eq_some_iff.mp hc9
      have hd0 := hko d (List.mem_of_getElem? hd)
      rw [show ((d.toNat : Nat) : Int) = d from by omega]
      exact LCg.CompEnd.intro F' N' _ (fun _ h => h) off3 trivial ⟨by omega, rfl, ints_take hks hd⟩
    rintro j ks news ⟨hk, rfl, hks⟩ DX h8 tk8 F' N' o3
    rw [List.take_of_length_le (by omega)] at hks
    iterate 1 walk1
    rename Fr _ _ _ _ => F9
    rename News _ _ _ _ => N9
    refine ⟨G.k.keeps F9.keep, ?_⟩
    obtain ⟨cs2, hcs1', hcs2', hcs3'⟩ := left_chunks (gone := gone) hb
    refine numbers_spec (G.keeps F9.keep) (Nat.lt_trans hdp (by decide)) hh ⟨_, (N9 _ (.head _)).1⟩ (by rw [hcs1']; exact hks) hcs2' (by rw [hcs1']; omega) fun DU h10 tk10 uv hk10 hDUn hDU huv => ?_
    obtain ⟨nu, hDU⟩ := hDU
    have hUL : DU ≠ L + 1 := fun e => by
      have h1 : h8.get? (L + 1) = some oc1 := (N9 (L + 1, oc1) (.tail _ (.tail _ (.tail _ (.tail _ (.head _)))))).1
      have h2 : h8.get? DU = none := hDUn
      rw [e, h1] at h2
      cases h2
    have N2 := add_new F9 N9 hk10 hDUn hDU
    have F2 := F9.keeps hk10
    clear F9 N9
    rw [hcs3'] at huv
    have hIL : I ≠ L + 1 := fun e => off (L + 1, oc1) (.tail _ (.head _)) e.symm
    have N3 : News h₀ L h10 ([(DU, W.listOf uv.toArray nu), (I, oI), (DF, LCg.lst fv)] ++ (L + 1, oc1) :: Led) := PN.sub N2 fun q hq => by
      simp only [List.mem_append, List.mem_cons, List.not_mem_nil, or_false] at hq ⊢
      rcases hq with (h | h | h) | h | h <;> simp [h]
    refine stCN F2 N3 (by rfl) hoc (fun q hq => ?_) T.off fun h11 oc2 F3 N4 hoc2 => ?_
    · simp only [List.mem_cons, List.not_mem_nil, or_false] at hq
      rcases hq with rfl | rfl | rfl
      · exact hUL
      · exact hIL
      · exact hdf
    clear F2 N2 N3
    have N5 : News h₀ L h11 ((DU, W.listOf uv.toArray nu) :: (I, oI) :: (DF, LCg.lst fv) :: (L + 1, oc2) :: Led) := N4
    clear N4
    iterate 3 walk1
    rename Fr _ _ _ _ => F9
    refine LCg.CompSrc.ledger (by exact hh) F9 N5 (.tail _ (.tail _ (.tail _ (.tail _ T.i3)))) (by rw [List.size_toArray, sizeLine_eq, T.a3.length, List.length_map]; have := T.hi; omega) fun g11 => ?_
    refine rest_inv (fun k j ws news => k = qs.length - j ∧ news = (DU, W.listOf uv.toArray nu) :: (I, oI) :: (DF, LCg.lst fv) :: (L + 1, oc2) :: Led ∧ IntsAre ws (gone.take j)) ?z4 ?s4 _ _ _ _ ⟨by simp, rfl, .nil⟩
    case s4 =>
      rintro k j ws news ⟨hk, rfl, hws⟩ v I2 oI2 C oC D m₂ h4 tk4 E' hP hC' hx' F' N' off2
      obtain ⟨b, t, rfl, hb2⟩ := T.a3.at j v (by simpa using hP)
      have hJ : j < labels.length := by
        have := (List.getElem?_eq_some_iff.mp hb2).1
        rw [List.length_map] at this
        exact this
      obtain ⟨gv, hgv⟩ : ∃ gv, gone[j]? = some gv := ⟨_, List.getElem?_eq_getElem (by rw [hgl]; exact hJ)⟩
      rw [List.getElem?_map] at hb2
      obtain ⟨lb, hlb, rfl⟩ := Option.map_eq_some_iff.mp hb2
      have hki := kept_iff hgl g01 T.lab T.hi j lb gv hlb hgv
      have hgv01 := g01 gv (List.mem_of_getElem? hgv)
      have hct : (keptNum labels gone).contains (numOf' lb) = decide (gv = 0) := by
        rw [List.contains_eq_mem]
        exact decide_eq_decide.mpr hki
      iterate 4 walk1
      rename Fr _ _ _ _ => F9
      rename News _ _ _ _ => N9
      refine in_ints (N9 _ (.tail _ (.tail _ (.tail _ (.head _))))).1 huv ?_
      rw [hct]
      rcases hgv01 with rfl | rfl
      · rw [show decide ((0 : Int) = 0) = true from rfl]
        iterate 3 walk1
        exact LCg.CompEnd.intro F9 N9 _ (fun _ h => h) off2 (.inr ⟨_, .tail _ (.tail _ (.tail _ (.tail _ T.i3))), rfl, _, rfl⟩) ⟨by omega, rfl, ints_take hws hgv⟩
      · rw [show decide ((1 : Int) = 0) = false from rfl]
        iterate 3 walk1
        exact LCg.CompEnd.intro F9 N9 _ (fun _ h => h) off2 (.inr ⟨_, .tail _ (.tail _ (.tail _ (.tail _ T.i3))), rfl, _, rfl⟩) ⟨by omega, rfl, ints_take hws hgv⟩
    rintro j ws news ⟨hk, rfl, hws⟩ DF' h12 tk12 F' N' o12
    rw [List.take_of_length_le (by have := T.a3.length; rw [List.length_map] at this; omega)] at hws
    have e2D : @Ne Nat I DF' := o12.2.1
    have e4D : @Ne Nat (L + 1) DF' := o12.2.2.2.1
    have e5D := o12.2.2.2.2
    refine wpAny_execs_nil ?_
    have NF : News h₀ L h12 ((I, oI) :: (DF', LCg.lst ws) :: (L + 1, oc2) :: Led) := PN.sub N' fun q hq => by
      simp only [List.mem_cons] at hq ⊢
      rcases hq with h | h | h | h <;> simp [h]
    refine RStep.intro F' NF (fun q hq => ?_) ⟨hgg, rfl, rfl, rfl, DF', ws, oc2, _, rfl, rfl, hoc2, fun e => e4D e.symm, by rw [figsAt, hgo]; exact hws⟩
    rcases List.mem_cons.mp hq with rfl | hq
    · exact fun e => e2D e.symm
    · rcases List.mem_cons.mp hq with rfl | hq
      · exact Ne.symm hIL
      · exact off q (.tail _ (.tail _ hq))

-- T8
theorem law_tail {w : World} {A : Around} {E : Value → Shared → Prop} {s : Shared} {p : Program} {loose : List Str} {mg mb : Str → Option Value} {Q : Value → Shared → Prop} {h₀ : Heap} {L : Addr} {m : Str → Option Value} (G : Gd w p loose mg mb h₀) (hdp : A.depth < 750) (hun : A.units < 5000)
  (hh : A.handled = none) {l : Addr} {vs : List Value} {ns : List Int} (hL : h₀.IsList l vs.toArray) (hn : IntsAre vs ns) (hsz : ns.length ≤ 63)
  {name qual : Str} {params : Arguments} {body : List Stmt} {scope : Scope} {dV kV doc pm cdv ct oc : Value} {an od : Option Addr} {osl : Array (Option Value)}
  (ho : (Mine.hd.heap_39 w.params).lookup 76 = some ⟨oc, od, .func (fnOf name qual params body scope dV kV doc pm an cdv ct), osl⟩)
  {Led : List (Addr × Obj)} {D1 D2 D3 : Addr} {ys zs qs : List Value} {fs labels : List Int} (T : Tail h₀ L Led D1 D2 D3 ys zs qs fs labels) {oc0 : Obj} (hoc0 : oc0.data = .cell none)
  (F : Fr h₀ L s.heap m) (N : News h₀ L s.heap ((L + 1, oc0) :: Led)) (m1 : m "start" = some (.ref D1)) (m2 : m "words" = some (.ref D2)) (m3 : m "numbers" = some (.ref D3)) (m4 : m "figures" = some (.ref D1)) (m5 : m "script" = some (.ref l))
  (hQ : ∀ h' g tk, Keep h₀ h' → (AllBare s.gens → AllBare g) → Q (.bool true) { s with heap := h', gens := g, toks := tk }) :
  wpAny (model PG w) A (execs (body.drop 5) (envOfC qual scope L 76 cdv)) (fun fl s' => Q (match fl with | .ret v => v | _ => .none) s') (fun _ _ => False) s := by
  have e := ho
  rw [show (Mine.hd.heap_39 w.params).lookup 76 = some ⟨_, _, .func (fnOf _ _ _ _ _ _ _ _ _ _ _ _), _⟩ from rfl] at e
  cases e
  clear ho
  have X' := G.k
  have T' := G.t
  have mm : m = fun (z : Str) => if z = "start" then some (.ref D1) else if z = "words" then some (.ref D2) else if z = "numbers" then some (.ref D3) else if z = "figures" then some (.ref D1) else if z = "script" then some (.ref l) else m z := by
    funext z
    by_cases e1 : z = "start"
    · rw [if_pos e1, e1, m1]
    · rw [if_neg e1]
      by_cases e2 : z = "words"
      · rw [if_pos e2, e2, m2]
      · rw [if_neg e2]
        by_cases e3 : z = "numbers"
        · rw [if_pos e3, e3, m3]
        · rw [if_neg e3]
          by_cases e4 : z = "figures"
          · rw [if_pos e4, e4, m4]
          · rw [if_neg e4]
            by_cases e5 : z = "script"
            · rw [if_pos e5, e5, m5]
            · rw [if_neg e5]
  rw [mm] at F
  simp only [List.drop]
  walk1
  refine wpAny_For ?_
  iterate 24 walk1
  rename_i D' ws h2 F2 N2 hI hC hLl l1
  refine sumK (by exact hh) F2 N2 (News.isList N2 (.head _)) hI fun h3 tk3 t3 F' N' => ?_
  clear F2 N2
  generalize (List.take 60 ns).sum = S
  iterate 6 walk1
  rename_i hr F9 N9 _
  have hme : Int.fmod (3 + S) 5 = (3 + S) % 5 := Int.fmod_eq_emod_of_nonneg _ (by decide)
  have hm0 : 0 ≤ Int.fmod (3 + S) 5 := by omega
  have hm1 : Int.fmod (3 + S) 5 < 5 := by omega
  clear hme
  generalize Int.fmod (3 + S) 5 = r at hm0 hm1 hr
  obtain ⟨rn, rfl⟩ : ∃ rn : Nat, r = rn := ⟨r.toNat, by omega⟩
  refine For_range (n := rn + 1) (RJ s.gens L Led D1 D2 D3 fs)
    (by exact hh) F9 (PN.sub N9 (l := (D1, LCg.lst ys) :: (L + 1, oc0) :: Led) ?_) hr ?_ ?_ ⟨fun x => x, rfl, rfl, rfl, D1, ys, oc0, _, rfl, rfl, hoc0, T.off _ T.i1, T.a1⟩ ?_ ?_
  · intro q hq
    rcases List.mem_cons.mp hq with rfl | hq
    · exact .tail _ (.tail _ T.i1)
    · exact .tail _ hq
  · exact small_one (by decide) (by decide) (by omega) (by omega)
  · rw [rangeSize_nat]; omega
  · rintro i g m₁ news₁ I oI h tk t' hi ⟨hg, m1', m2', m3', DF, fv, oc, v₀, hmf, rfl, hoc, hdf, hfv⟩ F' N' off
    rw [show (1 : Int) + (i : Int) * 1 = ((i + 1 : Nat) : Int) from by omega]
    iterate 2 walk1
    rename Fr _ _ _ _ => F9
    rename News _ _ _ _ => N9
    exact round_spec G hdp hun hh rfl T (by omega) hg (by exact m1') (by exact m2') (by exact m3') (by exact hmf) (by rfl) hoc hdf hfv F9 N9 off
  · rintro h tk g m₁ news₁ F' N' ⟨hg, m1', m2', m3', DF, fv, oc, v₀, hmf, rfl, hoc, hdf, hfv⟩
    iterate 3 walk1
    dsimp only
    exact hQ _ _ _ F'.keep hg

-- S8

theorem law_spec {w : World} {A : Around} {E : Value → Shared → Prop} {s : Shared} {p : Program} {loose : List Str} {mg mb : Str → Option Value} {Q : Value → Shared → Prop} (G : Gd w p loose mg mb s.heap) (hdp : A.depth < 700) (hun : A.units < 4000)
  (hh : A.handled = none) {l : Addr} {vs : List Value} {ns : List Int} (hL : s.heap.IsList l vs.toArray) (hn : IntsAre vs ns) (hsz : ns.length ≤ 63)
  (hQ : ∀ h' g tk, Keep s.heap h' → (AllBare s.gens → AllBare g) → Q (.bool true) { s with heap := h', gens := g, toks := tk }) :
  wpAny (model PySem.Challenge.rw_wf0006_01.prog w) A (call (.ref 76) [.ref l]) Q E s := by
  refine enterC [("script", .ref l)] G (Nat.lt_trans hdp (by decide)) rfl rfl rfl rfl (by decide +kernel) (fun h₁ tk cells F' N' Y' => ?_)
  have X' := G.k
  have T' := G.t
  k_cells Y'
  rename_i oc0 d0
  replace d0 : oc0.data = .cell none := d0
  (try dsimp only)
  have hdp1 : A.depth + 1 < 800 := by omega
  iterate 7 walk1
  rename Fr _ _ _ _ => F9
  rename News _ _ _ _ => N9
  refine Calls.spliced_nil ?_
  refine ⟨G.k.keeps F9.keep, ?_⟩
  refine names_spec (G.keeps F9.keep) (by exact hdp1) (by exact hh) (hL.at fun o e => F9.keep _ _ e) hn hsz fun Dn h2 tk2 us ps hk2 hDn hus hT h4 h7 hps => ?_
  obtain ⟨tl, htl, hTl⟩ := tups_list hT
  have F2 := F9.keeps hk2
  obtain ⟨nn, hus⟩ := hus
  have N2 := add_new F9 (add_all F9 N9 (fun _ _ e => e) (tl := []) (fun _ h => nomatch h)) hk2 hDn hus
  have N3 : News s.heap s.heap.objs.size h2 ((Dn, W.listOf us.toArray nn) :: (tl ++ [(s.heap.objs.size + 1, oc0)])) := fun q hq => by
    rcases List.mem_cons.mp hq with rfl | hq
    · exact N2 _ (.head _)
    · exact add_all F9 N9 hk2 htl q hq
  have hcD : Dn ≠ s.heap.objs.size + 1 := fun e => by
    rw [e, (N9 _ (.head _)).1] at hDn
    cases hDn
  have hcT : ∀ q ∈ tl, q.1 ≠ s.heap.objs.size + 1 := fun q hq e => by
    have := (htl q hq).2
    rw [e, (N9 _ (.head _)).1] at this
    cases this
  clear N2 N9 F9
  have hul := hTl.length
  iterate 2 walk1
  rename Fr _ _ _ _ => F9
  rename News _ _ _ _ => N9
  refine LCp.Assign_ListComp_P (F₀ := F9) (by rfl) (by with_unfolding_all rfl) (by with_unfolding_all rfl) (by decide) (by rfl) (by decide) (by rfl) (by rfl) (by decide) (by rfl) (by rfl) ?_
  walk1
  refine LCp.SrcLP.ledger (by exact hh) F9 N9 (.head _) (by rw [List.size_toArray, sizeLine_eq]; omega) fun g => ?_
  refine restP_inv (fun k i ys news => k = us.length - i ∧ news = (Dn, W.listOf us.toArray nn) :: (tl ++ [(s.heap.objs.size + 1, oc0)]) ∧ IntsAre ys ((ps.map (·.1)).take i)) ?z ?s _ _ _ _ ⟨by simp, rfl, .nil⟩
  case s =>
    rintro k i ys news ⟨hk, rfl, hys⟩ v hP
    obtain ⟨a, o, f, lb, rfl, hal, ⟨hoc, t1, t2, n1, hod⟩, hpi⟩ := hTl.get i v (by simpa using hP)
    refine ⟨a, o, _, _, n1, rfl, .tail _ (List.mem_append_left _ hal), hoc, hod, fun I oI C oC D m₂ h3 tk3 E' hC' e1 e2 F' N' off => ?_⟩
    iterate 1 walk1
    exact LCg.CompEnd.intro F' N' _ (fun _ h => h) off (.inr ⟨_, .head _, rfl, _, rfl⟩) ⟨by omega, rfl, ints_take hys (by rw [List.getElem?_map, hpi]; rfl)⟩
  rintro i ys news ⟨hk, rfl, hys⟩
  rw [List.take_of_length_le (by rw [List.length_map]; omega)] at hys
  intro D1 h5 tk5 F' N' o1
  have e1D : @Ne Nat Dn D1 := o1.1
  walk1
  rename Fr _ _ _ _ => F9
  rename News _ _ _ _ => N9
  refine LCp.Assign_ListComp_P (F₀ := F9) (by rfl) (by with_unfolding_all rfl) (by with_unfolding_all rfl) (by decide) (by rfl) (by decide) (by rfl) (by rfl) (by decide) (by rfl) (by rfl) ?_
  walk1
  refine LCp.SrcLP.ledger (by exact hh) F9 N9 (.tail _ (.head _)) (by rw [List.size_toArray, sizeLine_eq]; omega) fun g2 => ?_
  refine restP_inv (fun k i zs news => k = us.length - i ∧ ∃ wl, news = wl ++ ((D1, LCg.lst ys) :: (Dn, W.listOf us.toArray nn) :: (tl ++ [(s.heap.objs.size + 1, oc0)])) ∧ WL wl zs ((ps.map fun q => wordOf q.2).take i) ∧ ∀ q ∈ wl, q.1 ≠ s.heap.objs.size + 1) ?z2 ?s2 _ _ _ _ ⟨by simp, [], rfl, .nil, fun _ h => nomatch h⟩
  case s2 =>
    rintro k i zs news ⟨hk, wl, rfl, hwl, hwc⟩ v hP
    obtain ⟨a, o, f, lb, rfl, hal, ⟨hoc, t1, t2, n1, hod⟩, hpi⟩ := hTl.get i v (by simpa using hP)
    refine ⟨a, o, _, _, n1, rfl, List.mem_append_right _ (.tail _ (.tail _ (List.mem_append_left _ hal))), hoc, hod, fun I oI C oC D m₂ h3 tk3 E' hC' e1 e2 F' N' off => ?_⟩
    iterate 2 walk1
    obtain ⟨hf01, jl, hj0, hj1, hlb⟩ := hps i f lb hpi
    have hip : i < ps.length := (List.getElem?_eq_some_iff.mp hpi).1
    refine ListComp_bytes F' (by with_unfolding_all rfl) (by decide) (by rfl) (by decide) (by rfl) ?_
    iterate 9 walk1
    rename Fr _ _ _ _ => F9
    rename News _ _ _ _ => N9
    refine ap_spec (G.keeps F9.keep) (Nat.lt_of_lt_of_le (show A.depth + 1 < 800 from hdp1) (by decide)) (by exact hh) (by omega) (by omega) fun h7 tk7 t7 hk7 => ?_
    have hap := apOf_length lb
    refine ⟨_, _, _, rfl, by exact hh, F9.keeps hk7, N9.grown hk7, by rw [List.size_toArray, sizeLine_eq]; omega, ?_⟩
    rintro s₂ ⟨g7, rfl⟩
    refine rest_inv (fun k j ks news => k = (apOf lb).length - j ∧ news = (I, oI) :: (C, oC) :: (D, LCg.lst zs) :: (wl ++ ((D1, LCg.lst ys) :: (Dn, W.listOf us.toArray nn) :: (tl ++ [(s.heap.objs.size + 1, oc0)]))) ∧ IntsAre ks (((apOf lb).map fun c => (c.toNat : Int)).take j)) ?z3 ?s3 _ _ _ _ ⟨by simp, rfl, .nil⟩
    case s3 =>
      rintro k j ks news ⟨hk, rfl, hks⟩ v3 I3 oI3 C3 oC3 D3 m3 h8 tk8 E8 ⟨c8, u8, hc8, rfl⟩ hC8 hx8 F' N' off3
      iterate 1 walk1
      refine LCg.CompEnd.intro F' N' _ (fun _ h => h) off3 trivial ⟨by omega, rfl, ints_take hks ?_⟩
      rw [List.getElem?_map]
      simp only [List.getElem?_toArray] at hc8
      rw [hc8]
      rfl
    rintro j ks news ⟨hk, rfl, hks⟩ D3 h8 tk8 F' N' o3
    rw [List.take_of_length_le (by rw [List.length_map]; omega)] at hks
    iterate 8 walk1
    rename_i D' ws h9 F9 N9 hI l9
    obtain ⟨_, _, n1', n2', n3', nA⟩ := l9
    refine LCg.CompEnd.intro F9 N9 ((D', W.listOf ws.toArray 0) :: (wl ++ ((D1, LCg.lst ys) :: (Dn, W.listOf us.toArray nn) :: (tl ++ [(s.heap.objs.size + 1, oc0)])))) (fun q hq => ?_) ⟨⟨Nat.ne_of_gt n1', Nat.ne_of_gt n2', Nat.ne_of_gt n3'⟩, off⟩
      (.inr ⟨_, .tail _ (List.mem_append_right _ (.tail _ (.head _))), rfl, _, rfl⟩) ⟨by omega, (D', W.listOf ws.toArray 0) :: wl, rfl, ?_, ?_⟩
    · rcases List.mem_cons.mp hq with rfl | hq
      · exact .tail _ (.tail _ (.tail _ (.head _)))
      · rcases List.mem_cons.mp hq with rfl | hq
        · exact .tail _ (.tail _ (.tail _ (.tail _ (.head _))))
        · rcases List.mem_cons.mp hq with rfl | hq
          · exact .tail _ (.tail _ (.tail _ (.tail _ (.tail _ (.head _)))))
          · rcases List.mem_cons.mp hq with rfl | hq
            · exact .head _
            · exact .tail _ (.tail _ (.tail _ (.tail _ (.tail _ (.tail _ hq)))))
    · rw [List.take_add_one, List.getElem?_map, hpi]
      exact (hwl.mono fun _ => .tail _).snoc (.head _) hI
    · intro q hq
      rcases List.mem_cons.mp hq with rfl | hq
      · have hlt : s.heap.objs.size + 1 < D' := allLt_mem nA (s.heap.objs.size + 1, oc0) (List.mem_append_right _ (.tail _ (.tail _ (List.mem_append_right _ (.head _)))))
        exact fun e => Nat.ne_of_lt hlt e.symm
      · exact hwc q hq
  rintro i zs news ⟨hk, wl, rfl, hwl, hwc⟩
  rw [List.take_of_length_le (by rw [List.length_map]; omega)] at hwl
  intro D2 h6 tk6 F' N' o2
  walk1
  rename Fr _ _ _ _ => F9
  rename News _ _ _ _ => N9
  refine LCp.Assign_ListComp_P (F₀ := F9) (by rfl) (by with_unfolding_all rfl) (by with_unfolding_all rfl) (by decide) (by rfl) (by decide) (by rfl) (by rfl) (by decide) (by rfl) (by rfl) ?_
  walk1
  refine LCp.SrcLP.ledger (by exact hh) F9 N9 (.tail _ (List.mem_append_right _ (.tail _ (.head _)))) (by rw [List.size_toArray, sizeLine_eq]; omega) fun g4 => ?_
  refine restP_inv (fun k i qs news => k = us.length - i ∧ news = (D2, LCg.lst zs) :: (wl ++ ((D1, LCg.lst ys) :: (Dn, W.listOf us.toArray nn) :: (tl ++ [(s.heap.objs.size + 1, oc0)]))) ∧ IntsAre qs ((ps.map fun q => numOf' q.2).take i)) ?z4 ?s4 _ _ _ _ ⟨by simp, rfl, .nil⟩
  case s4 =>
    rintro k i qs news ⟨hk, rfl, hqs⟩ v hP
    obtain ⟨a, o, f, lb, rfl, hal, ⟨hoc, t1, t2, n1, hod⟩, hpi⟩ := hTl.get i v (by simpa using hP)
    refine ⟨a, o, _, _, n1, rfl, .tail _ (List.mem_append_right _ (.tail _ (.tail _ (List.mem_append_left _ hal)))), hoc, hod, fun I oI C oC D m₂ h3 tk3 E' hC' e1 e2 F' N' off => ?_⟩
    obtain ⟨hf01, jl, hj0, hj1, hlb⟩ := hps i f lb hpi
    have hip : i < ps.length := (List.getElem?_eq_some_iff.mp hpi).1
    iterate 9 walk1
    rename Fr _ _ _ _ => F9
    rename News _ _ _ _ => N9
    refine Calls.spliced_nil ?_
    refine ⟨G.k.keeps F9.keep, ?_⟩
    refine spread_spec (G.keeps F9.keep) (Nat.lt_of_lt_of_le (show A.depth + 1 < 800 from hdp1) (by decide)) (by exact hh) (by omega) (by omega) fun h7 tk7 t7 hk7 => ?_
    have F' := F9.keeps hk7
    have N' := N9.grown hk7
    clear F9 N9
    iterate 3 walk1
    rename Fr _ _ _ _ => F9
    rename News _ _ _ _ => N9
    refine LCg.CompEnd.intro F9 N9 _ (fun _ h => h) off (.inr ⟨_, .tail _ (List.mem_append_right _ (.tail _ (.head _))), rfl, _, rfl⟩) ⟨by omega, rfl, ints_take hqs ?_⟩
    rw [List.getElem?_map, hpi]
    rfl
  rintro i qs news ⟨hk, rfl, hqs⟩
  rw [List.take_of_length_le (by rw [List.length_map]; omega)] at hqs
  intro D3 h9 tk9 F' N' o3
  have c1 : D1 ≠ s.heap.objs.size + 1 := fun e => (off1_mem o1 (s.heap.objs.size + 1, oc0) (.tail _ (List.mem_append_right _ (.head _)))) e.symm
  have c2 : D2 ≠ s.heap.objs.size + 1 := fun e => (off1_mem o2 (s.heap.objs.size + 1, oc0) (List.mem_append_right _ (.tail _ (.tail _ (List.mem_append_right _ (.head _)))))) e.symm
  have c3 : D3 ≠ s.heap.objs.size + 1 := fun e => (off1_mem o3 (s.heap.objs.size + 1, oc0) (.tail _ (List.mem_append_right _ (.tail _ (.tail _ (List.mem_append_right _ (.head _))))))) e.symm
  iterate 4 walk1
  dsimp only
  rename Fr _ _ _ _ => F9
  rename News _ _ _ _ => N9
  have T : Tail s.heap s.heap.objs.size ((D3, LCg.lst qs) :: (D2, LCg.lst zs) :: (wl ++ ((D1, LCg.lst ys) :: (Dn, W.listOf us.toArray nn) :: tl))) D1 D2 D3 ys zs qs (ps.map (·.1)) (ps.map (·.2)) := by
    refine ⟨fun q hq => ?_, ?_, ?_, ?_, hys, ?_, ?_, by simp, by simpa using h4, by simpa using h7, fun f hf => ?_, fun k lb hk => ?_⟩
    · rcases List.mem_cons.mp hq with rfl | hq
      · exact c3
      · rcases List.mem_cons.mp hq with rfl | hq
        · exact c2
        · rcases List.mem_append.mp hq with hq | hq
          · exact hwc q hq
          · rcases List.mem_cons.mp hq with rfl | hq
            · exact c1
            · rcases List.mem_cons.mp hq with rfl | hq
              · exact hcD
              · exact hcT q hq
    · exact .tail _ (.tail _ (List.mem_append_right _ (.head _)))
    · exact .tail _ (.head _)
    · exact .head _
    · rw [List.map_map]
      exact hwl.mono fun q hq => .tail _ (.tail _ (List.mem_append_left _ hq))
    · rw [List.map_map]
      exact hqs
    · obtain ⟨q, hq, rfl⟩ := List.mem_map.mp hf
      obtain ⟨k, hk⟩ := List.getElem?_of_mem hq
      exact (hps k q.1 q.2 hk).1
    · rw [List.getElem?_map] at hk
      obtain ⟨q, hq, rfl⟩ := Option.map_eq_some_iff.mp hk
      exact (hps k q.1 q.2 hq).2
  refine law_tail (A := A.deeper _) (E := E) G (Nat.lt_of_lt_of_le (show A.depth + 1 < 701 by omega) (by decide)) ?_ (by exact hh) hL hn hsz rfl T d0 F9 (PN.sub N9 fun q hq => ?_) rfl rfl rfl rfl rfl hQ
  · exact show A.units + 3 < 5000 by omega
  · rcases List.mem_cons.mp hq with rfl | hq
    · exact .tail _ (.tail _ (List.mem_append_right _ (.tail _ (.tail _ (List.mem_append_right _ (.head _))))))
    · rcases List.mem_cons.mp hq with rfl | hq
      · exact .head _
      · rcases List.mem_cons.mp hq with rfl | hq
        · exact .tail _ (.head _)
        · rcases List.mem_append.mp hq with hq | hq
          · exact .tail _ (.tail _ (List.mem_append_left _ hq))
          · rcases List.mem_cons.mp hq with rfl | hq
            · exact .tail _ (.tail _ (List.mem_append_right _ (.head _)))
            · rcases List.mem_cons.mp hq with rfl | hq
              · exact .tail _ (.tail _ (List.mem_append_right _ (.tail _ (.head _))))
              · exact .tail _ (.tail _ (List.mem_append_right _ (.tail _ (.tail _ (List.mem_append_left _ hq)))))

-- F9
theorem fin : PySem.Challenge.rw_wf0006_01.Holds := Mine.hd (by
  w_strict (
  k_fill
  intro w s₀ s₁ mg mb G Y fa o pm cd doc dV kV ho hd hcd hD hmg hg args vals as hpre hlay hrd hwl hlo
  have KX := kIn_of Y
  refine Ground.open G ?_
  intro T B D TE TW
  wrow_args hpre hlay hrd hwl hlo
  have e76 := (mg_of (v := .ref 76) KX T.g (by kernel_rfl)).symm.trans hmg
  cases e76
  rename IntsAre _ _ => hI
  rename Heap.IsList _ _ _ => hL
  rename ¬ ((63 : Int) < _) => h63
  refine law_spec (E := _) ⟨KX, topRead_of T⟩ (by decide) (by decide) rfl hL hI (by omega) fun h' g tk hk hb => ?_
  refine ⟨.inl ⟨_, _, [], rfl, fun _ => rfl, ReadsW.bool true, ?_, fun _ => ⟨List.nodup_nil, fun _ hm => (nomatch hm)⟩⟩, .of_keep hk, rfl, hb (by rw [hg]; exact AllBare.empty)⟩
  first | rfl | wrow_post))

end Mine

theorem PySem.Challenge.cw_wf0006_01_holds : PySem.Challenge.rw_wf0006_01.Holds := by
  exact Mine.fin
#print axioms PySem.Challenge.cw_wf0006_01_holds
