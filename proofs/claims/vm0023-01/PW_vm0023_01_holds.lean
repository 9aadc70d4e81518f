import PyProof.Rows.All
import Wide.All
import OpenK.AllK
import Wide.FinOn
import PySem.Challenge.RW_vm0023_01
set_option Elab.async false
set_option linter.all false
section
open PySem PySem.W PyProof.Rows
namespace Mine
set_option maxRecDepth 100000 in
set_option maxHeartbeats 8000000 in
open_top hd for PySem.Challenge.rw_vm0023_01
end Mine
end
section
open PySem PySem.Builtin PySem.Builtin.Str
namespace Mine
/-- a str out of its signs -/
def S (l : List Nat) : Str := ⟨l.toArray⟩
theorem S_cps (x : Str) : S x.cps.toList = x := by cases x; simp [S]
theorem cps_S (l : List Nat) : (S l).cps.toList = l := by simp [S]
theorem S_len (l : List Nat) : (S l).length = l.length := by simp [S, Str.length]
theorem len_cps (x : Str) : x.cps.toList.length = x.length := by simp [Str.length]
theorem S_app (a b : List Nat) : S a ++ S b = S (a ++ b) := Str.ext' (by rw [Str.cps_append]; simp [S])
theorem eq_S {x : Str} {l : List Nat} (h : x.cps.toList = l) : x = S l := by rw [← h, S_cps]
theorem S_inj {a b : List Nat} (h : S a = S b) : a = b := by rw [← cps_S a, h, cps_S]

/-- every c turned into z -/
def sub1 (c : Nat) (z : List Nat) (l : List Nat) : List Nat := l.flatMap fun k => if k = c then z else [k]
theorem sub1_app (c : Nat) (z a b : List Nat) : sub1 c z (a ++ b) = sub1 c z a ++ sub1 c z b := by simp [sub1]
theorem sub1_free (c : Nat) (z : List Nat) : ∀ l : List Nat, c ∉ l → sub1 c z l = l
  | [], _ => rfl
  | k :: r, h => by
    have h1 : ¬ k = c := fun e => h (e ▸ List.mem_cons_self ..)
    have h2 : c ∉ r := fun m => h (List.mem_cons_of_mem _ m)
    have ih := sub1_free c z r h2
    unfold sub1 at ih ⊢
    rw [List.flatMap_cons, if_neg h1, ih]; rfl
theorem sub1_join (c : Nat) (z : List Nat) : ∀ parts : List Str, (∀ p ∈ parts, c ∉ p.cps.toList) → sub1 c z (Str.join ⟨#[c]⟩ parts).cps.toList = (Str.join (S z) parts).cps.toList
  | [], _ => rfl
  | [p], h => sub1_free c z _ (h p (List.mem_singleton.mpr rfl))
  | p :: q :: r, h => by
    have ih := sub1_join c z (q :: r) fun a ha => h a (List.mem_cons_of_mem _ ha)
    show sub1 c z (p ++ ⟨#[c]⟩ ++ Str.join ⟨#[c]⟩ (q :: r)).cps.toList = (p ++ S z ++ Str.join (S z) (q :: r)).cps.toList
    simp only [Str.cps_append, Array.toList_append]
    rw [sub1_app, sub1_app, ih, sub1_free c z _ (h p (List.mem_cons_self ..))]
    have e : sub1 c z [c] = z := by simp [sub1]
    show p.cps.toList ++ sub1 c z [c] ++ _ = _
    rw [e, cps_S]
theorem replace_sub1 (x : Str) (c : Nat) (z : List Nat) : Txt.replace x ⟨#[c]⟩ (S z) = S (sub1 c z x.cps.toList) := by
  refine eq_S ?_
  rw [StrLaws.replace_one, ← sub1_join c z _ (StrLaws.split_free x c), StrLaws.join_split]
theorem sub1_len {c : Nat} {z : List Nat} (h : z.length ≤ 2) : ∀ l : List Nat, (sub1 c z l).length ≤ 2 * l.length
  | [] => by simp [sub1]
  | k :: r => by
    have ih := sub1_len (c := c) h r
    unfold sub1 at ih ⊢
    rw [List.flatMap_cons, List.length_append, List.length_cons]
    split
    · omega
    · rw [List.length_singleton]; omega

/-- the signs of a plain word -/
def tokS : List Nat := (Str.ofString "!#$%&'*+-.0123456789ABCDEFGHIJKLMNOPQRSTUVWXYZ^_`abcdefghijklmnopqrstuvwxyz|~").cps.toList
def esc (l : List Nat) : List Nat := sub1 34 [92, 34] (sub1 92 [92, 92] l)
/-- a word between quotes -/
def quoteF (l : List Nat) : List Nat := 34 :: (esc l ++ [34])
def isTok (l : List Nat) : Bool := !l.isEmpty && l.all fun c => tokS.contains c
def quote (l : List Nat) : List Nat := if isTok l then l else quoteF l
def escC (c : Nat) : List Nat := if c = 92 then [92, 92] else if c = 34 then [92, 34] else [c]
theorem esc_eq (l : List Nat) : esc l = l.flatMap escC := by
  unfold esc
  induction l with
  | nil => rfl
  | cons c r ih =>
    have e : sub1 92 [92, 92] (c :: r) = (if c = 92 then [92, 92] else [c]) ++ sub1 92 [92, 92] r := by simp [sub1]
    rw [e, sub1_app, ih, List.flatMap_cons]
    congr 1
    unfold escC
    by_cases h : c = 92
    · subst h; simp [sub1]
    · simp [sub1, h]
theorem esc_len (l : List Nat) : (esc l).length ≤ 2 * l.length := by
  rw [esc_eq]
  induction l with
  | nil => simp
  | cons c r ih =>
    rw [List.flatMap_cons, List.length_append, List.length_cons]
    have : (escC c).length ≤ 2 := by unfold escC; split <;> (try split) <;> simp
    omega
theorem quoteF_len (l : List Nat) : (quoteF l).length ≤ 2 * l.length + 2 := by
  have := esc_len l
  unfold quoteF; simp; omega
theorem quote_len (l : List Nat) : (quote l).length ≤ 2 * l.length + 2 := by
  unfold quote
  split
  · omega
  · exact quoteF_len l
/-- a row of words with sep between -/
def joinL (sep : List Nat) : List (List Nat) → List Nat
  | [] => []
  | [x] => x
  | x :: y :: r => x ++ sep ++ joinL sep (y :: r)
theorem join_S (sep : List Nat) : ∀ ps : List (List Nat), Str.join (S sep) (ps.map S) = S (joinL sep ps)
  | [] => rfl
  | [x] => rfl
  | x :: y :: r => by
    have ih := join_S sep (y :: r)
    show S x ++ S sep ++ Str.join (S sep) ((y :: r).map S) = _
    rw [ih, S_app, S_app]; rfl
theorem txtjoin_S (sep : List Nat) (ps : List (List Nat)) : Txt.join (S sep) (ps.map S) = S (joinL sep ps) := by
  unfold Txt.join
  rw [StrLaws.glued_eq_join]
  exact join_S sep ps
theorem joinL_nil : ∀ ps : List (List Nat), joinL [] ps = ps.flatten
  | [] => rfl
  | [x] => by simp [joinL]
  | x :: y :: r => by
    have ih := joinL_nil (y :: r)
    simp [joinL, ih]
theorem joinOk_S (sep : List Nat) (ps : List (List Nat)) (B : Nat) (hB : ∀ y ∈ ps, y.length ≤ B) (h : ps.length * B + ps.length * sep.length ≤ 16777216) : JoinOk (S sep) (ps.map S) = true := by
  unfold JoinOk
  rw [StrLaws.joinFits (B := B) (fun y hy => by
    obtain ⟨z, hz, rfl⟩ := List.mem_map.mp hy
    rw [S_len]; exact hB z hz) (by rw [List.length_map, S_len]; exact h)]
  rfl
end Mine
end
section
open PySem PySem.W PyProof.Rows PySem.Calls PySem.Spec
namespace Mine
theorem fillK : PySem.Challenge.rw_vm0023_01 = PySem.Challenge.rw_vm0023_01 ∧ hd.heap_39 = hd.heap_39 := by
  k_fill
  exact ⟨rfl, rfl⟩
abbrev PG : Program := PySem.Challenge.rw_vm0023_01.row.prog
noncomputable abbrev LO : List Str := (looseW hd.view_39
          [Str.ofString "quote_header_value", Str.ofString "_unslash_re", Str.ofString "_parameter_key_re",
            Str.ofString "_parameter_mark_re", Str.ofString "_parameter_token_value_re",
            Str.ofString "_parameter_delimiter_re"] ++
        List.map (fun x => x.name) (recsOf hd.view_39) ++
      List.map (fun x => x.fst) (litsOf hd.view_39) ++
    List.map (fun x => x.name)
      (clssOf hd.view_39
        (looseW hd.view_39
          [Str.ofString "quote_header_value", Str.ofString "_unslash_re", Str.ofString "_parameter_key_re",
            Str.ofString "_parameter_mark_re", Str.ofString "_parameter_token_value_re",
            Str.ofString "_parameter_delimiter_re"])))

/-- a call of f, whatever the caller's frame: it ends, keeps all that stood, and gives what Post says -/
def Con (w : World) (mean : ExcName → Option Value) (mg mb : Str → Option Value) (n : Nat) (Pre : Heap → Prop) (f : Addr) (vs : List Value) (kw : List (Str × Value)) (Post : Heap → Heap → Value → Prop) : Prop :=
  ∀ (dp un : Nat) (gd : Option (List Code)) (cn : Str) (cs : Scope) (a : Addr) (ccd : Value) (cl : List (Str × Addr)) (outer : List Env) (A₀ : Around) (base h₀ : Heap) (L : Addr) (m : Str → Option Value) (s : Shared) (Q E : Value → Shared → Prop),
    Below A₀ base outer h₀ → Fr h₀ L s.heap m → (hd.heap_39 w.params).In h₀ → Top topProg LO mean mg mb h₀ → Pre s.heap → cs.kind = .function → dp + n < recursionLimit → un + 8 * n < cLine →
    (∀ v h' tk', s.heap.StaysIn h' → Post s.heap h' v → Q v { s with heap := h', toks := tk' }) →
    wpAny (model PG w) (ktrTop dp un gd cn cs L a ccd cl outer) (call (.ref f) vs kw) Q E s

section
variable {w : World} {mean : ExcName → Option Value} {mg mb : Str → Option Value} {n : Nat} {Pre : Heap → Prop} {f : Addr} {vs : List Value} {kw : List (Str × Value)} {Post : Heap → Heap → Value → Prop}
  {dp un : Nat} {gd : Option (List Code)} {cn : Str} {cs : Scope} {a : Addr} {ccd : Value} {cl : List (Str × Addr)} {outer : List Env} {A₀ : Around} {base h₀ : Heap} {L : Addr} {m : Str → Option Value} {s : Shared} {Q E : Value → Shared → Prop}
  {news : List (Addr × Obj)}

theorem fr_stays {h h' : Heap} (F : Fr h₀ L h m) (k : h.StaysIn h') : Fr h₀ L h' m := F.keeps k
theorem stays_end {h g h' : Heap} {L' : Addr} {m' : Str → Option Value} (hs : h.StaysIn g) (F : Fr g L' h' m') : h.StaysIn h' := fun b o e => F.keep b o (hs b o e)
theorem str_eq {a b : Str} {t : Tok} (h : a = b) : Value.str a t = Value.str b t := by rw [h]
theorem news_stays {h h' : Heap} (N : News h₀ L h news) (k : h.StaysIn h') : News h₀ L h' news := fun p hp => ⟨k _ _ (N p hp).1, (N p hp).2⟩

/-- a contract used where the answer is a plain value -/
theorem con_val (C : Con w mean mg mb n Pre f vs kw Post) (B : Below A₀ base outer h₀) (F : Fr h₀ L s.heap m) (X : (hd.heap_39 w.params).In h₀) (T : Top topProg LO mean mg mb h₀) (N : News h₀ L s.heap news) (hp : Pre s.heap) (hk : cs.kind = .function)
    (hd : dp + n < recursionLimit) (hu : un + 8 * n < cLine)
    (ret : ∀ v h' tk', Fr h₀ L h' m → News h₀ L h' news → Post s.heap h' v → Q v { s with heap := h', toks := tk' }) :
    wpAny (model PG w) (ktrTop dp un gd cn cs L a ccd cl outer) (call (.ref f) vs kw) Q E s :=
  C dp un gd cn cs a ccd cl outer A₀ base h₀ L m s Q E B F X T hp hk hd hu fun v h' tk' k p => ret v h' tk' (fr_stays F k) (news_stays N k) p
end

section
variable {prog : Program} {w : World} {A A₀ : Around} {E : Value → Shared → Prop} {s : Shared} {K : Frag} {L : Addr} {h₀ base : Heap} {m mg mb : Str → Option Value} {p : Program} {loose : List Str} {mean : ExcName → Option Value}
theorem enter_plain {env : Env} {outer : List Env} {R : Result → Shared → Prop} {name qual : Str} {params : Arguments} {body : List Stmt} {scope : Scope} {dV kV doc pm cdv ct oc : Value} {an od : Option Addr} {osl : Array (Option Value)} {f : Addr} {args : Args} {binds : List (Str × Value)}
    (B : Below A₀ base outer h₀) (F : Fr h₀ L s.heap m) (X₀ : K.In h₀) (T : Top p loose mean mg mb h₀) (hA : A.frames = some (env :: outer)) (hf : env.frame = some L) (hke : env.scope.kind = .function)
    (ho : K.lookup f = some ⟨oc, od, .func (fnOf name qual params body scope dV kV doc pm an cdv ct), osl⟩) (hcd : codeIn K cdv qual = true) (hroom : A.depth < recursionLimit)
    (hbind : BindsTo s (fnOf name qual params body scope dV kV doc pm an cdv ct) args binds) (hloc : ∀ y ∈ binds, scope.names.lookup y.1 = some .local)
    (hne : ∃ p r, binds = p :: r) (h : ∀ g L' h₁ tk, 0 < tk → s.heap.StaysIn g → Fr h₀ L g m → Fr g L' h₁ (fun y => binds.reverse.lookup y) → News g L' h₁ [] → Below A base (env :: outer) g → K.In g → Top p loose mean mg mb g →
      wpAny (model prog w) (A.deeper (envOf qual scope L' f cdv)) (execs body (envOf qual scope L' f cdv))
        (fun fl s' => LeaveK h₀ L m g R (match fl with | .ret v => v | _ => .none) s')
        (fun e s' => wpAny (model prog w) (A.deeper (envOf qual scope L' f cdv)) (leaving (envOf qual scope L' f cdv) e) (fun _ s'' => R (.error e) s'') (fun e' s'' => R (.error e') s'') s')
        { s with heap := h₁, toks := tk })
    (hco : scope.isCoroutine = false) (hgen : scope.isGenerator = false) (hk : scope.kind = .function)
    (hcell : ∀ x ∈ scope.names, x.2 ≠ .cell) : codeAny (model prog w) A (.call (.ref f) args) R s := by
  have X := X₀.keeps F.keep
  obtain ⟨FG, BG, st, lv⟩ := groundX (R := R) B F (News.nil (h₀ := h₀) (L := L) (h := s.heap)) hA hf hke
  refine codeAny_call_def (fd := fnOf name qual params body scope dV kV doc pm an cdv ct) (body := body) (binds := binds) hroom (X _ _ ho) rfl (T.nolimit.keeps F.keep) (codeRec_of X hcd) rfl hbind hcell hloc (fun h₁ hns hk₁ => ?_) hco hgen hk
  exact wpAny_mono (h s.heap s.heap.objs.size h₁ _ (by obtain ⟨p, r, e⟩ := hne; show 0 < s.toks + binds.length; rw [e, List.length_cons]; omega) (fun _ _ e => e) FG ⟨hns, hk₁, Nat.le_refl _⟩ News.nil BG X (T.keeps F.keep)) (fun fl s' hl => lv _ _ hl) fun _ _ y => y
theorem newEnv_pos {M : Model} {A : Around} {E : Value → Shared → Prop} {s : Shared} {scope : Scope} {globals : Addr} {binds : List (Str × Value)} {qual : Str} {func : Option Addr} {code : Value} {builtins : Addr} {Q : Env → Shared → Prop}
    (hk : scope.kind = .function)
    (hkind : ∀ x ∈ binds, scope.names.lookup x.1 = some .local ∨ (scope.names.lookup x.1 = some .cell ∧ ((cellsFrom (s.heap.objs.size + 1) scope.names []).lookup x.1).isSome = true))
    (hne : ∃ p r, binds = p :: r ∧ scope.names.lookup p.1 = some .local)
    (hQ : ∀ env, env = newEnv scope s.heap.objs.size globals (cellsFrom (s.heap.objs.size + 1) scope.names []) qual func code none builtins →
      ∀ s', InCallC s env.locals (bindL env.kindOf binds fun _ => none) env.cells (bindC env.kindOf binds fun _ => none) s' → 0 < s'.toks → Q env s') :
    wpAny M A (newFunctionEnv scope globals [] binds qual func code none builtins) Q E s := by
  obtain ⟨⟨n, v⟩, r, rfl, hl⟩ := hne
  simp only [newFunctionEnv, Option.isSome_none, Bool.false_eq_true, if_false]
  refine wpAny_bind (wpAny_alloc (wpAny_bind (wpAny_layCells _ (fun name kind cells => by cases hkc : kind == NameKind.cell <;> simp [hkc]) _ _ _ _ ?_)))
  have ok := cellsFrom_ok scope.names (s.heap.push { cls := .type "frame", data := .dict #[] }) (s.heap.objs.size + 1) [] ⟨fun _ _ hm => (nomatch hm), List.Pairwise.nil⟩ (by rw [Heap.size_push]; exact Nat.le_refl _)
  rw [Heap.size_push] at ok
  rw [show ({ s with heap := s.heap.push { cls := .type "frame", data := .dict #[] } } : Shared).heap.objs.size = s.heap.objs.size + 1 from Heap.size_push ..]
  have x₀ : InCallC s (newEnv scope s.heap.objs.size globals (cellsFrom (s.heap.objs.size + 1) scope.names []) qual func code none builtins).locals (fun _ => none)
      (newEnv scope s.heap.objs.size globals (cellsFrom (s.heap.objs.size + 1) scope.names []) qual func code none builtins).cells (fun _ => none)
      { s with heap := pushCells (s.heap.push { cls := .type "frame", data := .dict #[] }) scope.names } :=
    ⟨⟨⟨_, _, rfl⟩, (Heap.Ns.new s.heap (.type "frame")).keeps (pushCells_keeps _ _), fun b o e => pushCells_keeps _ _ b o (Heap.get?_push_of_some _ e), Nat.le_refl _⟩, fun n c hc => (ok.empty n c (mem_of_lookup hc)).1, ok.apart, fun n c hm => (ok.empty n c hm).2⟩
  rw [List.forIn_cons]
  refine wpAny_bind (wpAny_bind (wpAny_bind (wpAny_storeName_local hl x₀.toInCall.ns (fun h' hn' hs' => ?_) (by show (scope.kind == _ || (scope.kind == _ && _)) = false; rw [hk]; rfl))))
  refine wpAny_pure (wpAny_with_toks (n := 1) (Nat.succ_pos _) (wpAny_mono (E := fun e s' => 1 ≤ s'.toks → E e s') (wpAny_bindParams (s₀ := s) (env := newEnv scope s.heap.objs.size globals (cellsFrom (s.heap.objs.size + 1) scope.names []) qual func code none builtins) _ (fun _ _ _ => rfl) hk r (fun y => if y = n then some v else none) (fun _ => none) _ _ ?_ (fun y hy => hkind y (List.mem_cons_of_mem _ hy)) fun s' x => ?_) (fun _ _ x => x) fun _ _ x => x))
  · refine ⟨⟨⟨h', _, rfl⟩, hn', fun b o e => ?_, Nat.le_refl _⟩, fun k c hc => ?_, x₀.apart, x₀.above⟩
    · exact hs'.extBut b o (Nat.ne_of_lt (Heap.lt_size e)) (x₀.toInCall.keep b o e)
    · exact (x₀.cell k c hc).sameBut hs' (Nat.ne_of_gt (x₀.above k c (mem_of_lookup hc)))
  · intro h1
    refine wpAny_pure (hQ _ rfl s' ?_ h1)
    unfold bindL bindC
    have hl' : (newEnv scope s.heap.objs.size globals (cellsFrom (s.heap.objs.size + 1) scope.names []) qual func code none builtins).kindOf n = some .local := hl
    rw [if_pos hl', if_pos hl']
    exact x
theorem enter_cells {env : Env} {outer : List Env} {R : Result → Shared → Prop} {name qual : Str} {params : Arguments} {body : List Stmt} {scope : Scope} {dV kV doc pm cdv ct oc : Value} {an od : Option Addr} {osl : Array (Option Value)} {f : Addr} {args : Args} {binds : List (Str × Value)}
    (B : Below A₀ base outer h₀) (F : Fr h₀ L s.heap m) (X₀ : K.In h₀) (T : Top p loose mean mg mb h₀) (hA : A.frames = some (env :: outer)) (hf : env.frame = some L) (hke : env.scope.kind = .function)
    (ho : K.lookup f = some ⟨oc, od, .func (fnOf name qual params body scope dV kV doc pm an cdv ct), osl⟩) (hcd : codeIn K cdv qual = true) (hroom : A.depth < recursionLimit)
    (hbind : BindsTo s (fnOf name qual params body scope dV kV doc pm an cdv ct) args binds) (hkind : (binds.all fun y => scope.names.lookup y.1 == some .local || scope.names.lookup y.1 == some .cell) = true)
    (hnd : ((cellsFrom 0 scope.names []).map (·.1)).Nodup) (hne : ∃ p r, binds = p :: r ∧ scope.names.lookup p.1 = some .local)
    (h : ∀ g L' h₁ tk cells, s.heap.StaysIn g → 0 < tk → Fr h₀ L g m → Fr g L' h₁ (bindL (envOfC qual scope L' f cdv).kindOf binds fun _ => none) → News g L' h₁ cells →
      CellsAre (bindC (envOfC qual scope L' f cdv).kindOf binds fun _ => none) (cellsFrom (L' + 1) scope.names []) cells → Below A base (env :: outer) g → K.In g → Top p loose mean mg mb g →
      wpAny (model prog w) (A.deeper (envOfC qual scope L' f cdv)) (execs body (envOfC qual scope L' f cdv))
        (fun fl s' => LeaveK h₀ L m g R (match fl with | .ret v => v | _ => .none) s')
        (fun e s' => wpAny (model prog w) (A.deeper (envOfC qual scope L' f cdv)) (leaving (envOfC qual scope L' f cdv) e) (fun _ s'' => R (.error e) s'') (fun e' s'' => R (.error e') s'') s')
        { s with heap := h₁, toks := tk })
    (hco : scope.isCoroutine = false) (hgen : scope.isGenerator = false) (hk : scope.kind = .function) : codeAny (model prog w) A (.call (.ref f) args) R s := by
  have X := X₀.keeps F.keep
  obtain ⟨FG, BG, st, lv⟩ := groundX (R := R) B F (News.nil (h₀ := h₀) (L := L) (h := s.heap)) hA hf hke
  refine codeAny_call_function hroom (X _ _ ho) rfl hco hgen rfl (codeRec_of X hcd) (hbind _ _ _ _ ?_)
  refine newEnv_pos (binds := binds) hk (kindsX hkind _) hne fun env' he s' x h1 => ?_
  subst he
  refine ⟨(T.nolimit.keeps F.keep).keeps x.toInCall.keep, codeAny_func ?_⟩
  obtain ⟨h₁, tk, rfl, _⟩ := x.done
  have hk₁ := x.toInCall.keep
  obtain ⟨cells, NC, Y⟩ := Cl.news (h₀ := s.heap) (Nat.le_refl _) fun n c hm => ⟨x.cell n c (lookup_of_mem_nodup (cellsFrom_names scope.names 0 (s.heap.objs.size + 1) [] [] rfl ▸ hnd) hm), x.above n c hm⟩
  refine wpAny_mono (h s.heap s.heap.objs.size h₁ tk cells (fun _ _ e => e) h1 FG ⟨x.toInCall.ns, hk₁, Nat.le_refl _⟩ NC Y BG X (T.keeps F.keep)) (fun fl s' hl => lv _ _ hl) fun _ _ y => y
end

/-- the next statement, the tokens' number positive and forgotten -/
theorem execs_cons_tk {M : Model} {A : Around} {env : Env} {E : Value → Shared → Prop} {s : Shared} {st : Stmt} {rest : List Stmt} {Q : Flow → Shared → Prop} (h0 : 0 < s.toks)
    (h : wpAny M A (exec st env) (fun f s' => match f with | .next => ∀ tk, 0 < tk → wpAny M A (execs rest env) Q E { s' with toks := tk } | f => Q f s') E s) :
    wpAny M A (execs (st :: rest) env) Q E s := by
  refine wpAny_execs_cons (wpAny_with_toks (n := 1) h0 (wpAny_mono h (fun f s' x => ?_) fun _ _ e _ => e))
  intro h1
  cases f with
  | next => exact x s'.toks h1
  | _ => exact x
end Mine
end
section
open PySem PySem.W PyProof.Rows PySem.Calls PySem.Spec
namespace Mine
open LCg LCt
section
variable {prog : Program} {w : World} {A : Around} {E : Value → Shared → Prop} {s : Shared} {h₀ : Heap} {L : Addr} {m : Str → Option Value} {env : Env}

def SrcS (prog : Program) (w : World) (A : Around) (h₀ : Heap) (L : Addr) (m : Str → Option Value) (env : Env) (ct elt : Expr) (x : Str) (scope : Scope) (cl : List (Str × Addr)) (Fin : Shared → List Value → List (Addr × Obj) → Prop) (xv : Value) (s₁ : Shared) : Prop :=
  ∃ xt tx news, xv = Value.str xt tx ∧ A.handled = none ∧ Fr h₀ L s₁.heap m ∧ News h₀ L s₁.heap news ∧ xt.cps.size ≤ sizeLine ∧
    ∀ s₂ : Shared, (∃ h, s₂ = { s₁ with heap := h }) → CompRestT prog w A h₀ L m env ct elt x scope cl s₂ (fun _ => True) (SignAt xt) (Fin s₂) xt.cps.size 0 [] news
theorem SrcS.mk {ct elt : Expr} {x : Str} {scope : Scope} {cl : List (Str × Addr)} {Fin : Shared → List Value → List (Addr × Obj) → Prop} {xt : Str} {tx : Tok} {news : List (Addr × Obj)} {s₁ : Shared}
    (hh : A.handled = none) (F : Fr h₀ L s₁.heap m) (N : News h₀ L s₁.heap news) (hsz : xt.cps.size ≤ sizeLine)
    (h : ∀ g, CompRestT prog w A h₀ L m env ct elt x scope cl { s₁ with heap := g } (fun _ => True) (SignAt xt) (Fin { s₁ with heap := g }) xt.cps.size 0 [] news) :
    SrcS prog w A h₀ L m env ct elt x scope cl Fin (.str xt tx) s₁ := ⟨xt, tx, news, rfl, hh, F, N, hsz, fun _ ⟨g, e⟩ => e ▸ h g⟩
/-- a list comprehension with one test over a str -/
theorem ListComp_Tstr (F₀ : Fr h₀ L s.heap m) {ct elt iter : Expr} {x : Str} {px : Pos} {scope : Scope} {cl : List (Str × Addr)} {pos : Pos} {Q : Value → Shared → Prop}
    (hclos : closureFor scope env = pure cl) (hcell : ∀ y ∈ scope.names, y.2 ≠ .cell) (hkind : scope.kind = .function)
    (hnames : ∀ y ∈ scope.names, y.2 = .local → scope.names.lookup y.1 = some .local) (hx : scope.names.lookup x = some .local)
    (h : wpAny (model prog w) A (eval iter env) (SrcS prog w A h₀ L m env ct elt x scope cl (fun s₂ => FinE h₀ L m s₂ Q)) E s)
    (hs : ∀ x, foldedSetIterable iter env x = pure x := by intro _; rfl) :
    wpAny (model prog w) A (eval (.ListComp elt [⟨.Name x px, iter, [ct], 0⟩] scope pos) env) Q E s := by
  rw [eval_ListComp]
  refine wpAny_comprehension_free (use := none) rfl hs hclos hkind hnames (wpAny_mono h (fun xv s₁ h₁ => ?_) fun _ _ e => e)
  obtain ⟨xt, tx, news, rfl, hh, F, N, hsz, R⟩ := h₁
  have last : ∀ (t : String) (o : Obj), (s₁.heap.push o).IsStrIter s₁.heap.objs.size t xt tx 0 → Walks prog w A s₁.heap.objs.size [s₁.heap.objs.size] [s₁.heap.objs.size] xt.cps.size (SignAt xt) (fun i h => h.IsStrIter s₁.heap.objs.size t xt tx i) →
      wpAny (model prog w) A (newList []) (fun acc s₃ => wpAny (model prog w) A (newFunctionEnv scope env.globals cl [] env.qual none .none (some env)) (fun cenv s₄ =>
        codeAny (model prog w) A (.compStart (.ListComp elt [⟨.Name x px, iter, [ct], 0⟩] scope pos) 0 (.ref s₁.heap.objs.size) acc { cenv with scope := relabel scope env })
          (compPost (model prog w) A E none Q acc cenv.locals) s₄) E s₃) E { s₁ with heap := s₁.heap.push o } := by
    intro t o st W
    refine block_T (RR := compPost (model prog w) A E none Q) W hsz (fun i h st => by obtain ⟨o, e, _⟩ := st; exact ⟨o, e⟩)
      (fun i h h' o nw st e e' _ _ _ => by obtain ⟨o', q, r⟩ := st; rw [e] at q; cases q; exact ⟨o, e', r⟩) hcell hkind hx st (fun b hb => ?_)
      (F.push _) (N.grown fun _ _ e => Heap.get?_push_of_some _ e) (Nat.ne_of_lt F.ns.lt) (next_is_new F) (fun p hp => Nat.ne_of_lt (Heap.lt_size (N p hp).1)) trivial (R _ ⟨_, rfl⟩) ?_
    · rw [List.mem_singleton.mp hb]
      show s₁.heap.objs.size < (s₁.heap.push _).objs.size
      rw [Heap.size_push]; exact Nat.lt_succ_self _
    · intro D C h tk m' ys news' F' N' o1 hn hC₀ hD₀ hCL hDL hCD offC fin
      refine ⟨m', hn, fun h'' hs'' => fin D h'' tk (F'.change hs'' hCL hC₀) (fun p hp => ?_) o1⟩
      refine ⟨hs''.extBut _ _ ?_ (N' p hp).1, (N' p hp).2⟩
      rcases List.mem_cons.mp hp with rfl | hp
      · exact Ne.symm hCD
      · exact offC p hp
  cases ha : xt.cps.all (· < 128)
  · exact wpAny_pyIter_wide ha (last "str_iterator" _ ⟨_, Heap.get?_push_size _ rfl, rfl, rfl⟩ (Walks.strWide hh _ xt tx))
  · exact wpAny_pyIter_ascii ha (last "str_ascii_iterator" _ ⟨_, Heap.get?_push_size _ rfl, rfl, rfl⟩ (Walks.strAscii hh _ xt tx))
end
end Mine
end
section
open PySem PySem.W PyProof.Rows PySem.Calls PySem.Spec
namespace Mine
open LCg LCt
def QEl (p : Nat → Bool) (c : Nat) (news : List (Addr × Obj)) (news' : List (Addr × Obj)) : Prop := p c = true ∧ news' = news
def QNo (p : Nat → Bool) (c : Nat) (news : List (Addr × Obj)) (news' : List (Addr × Obj)) : Prop := p c = false ∧ news' = news
section
variable {prog : Program} {w : World} {A : Around} {h₀ : Heap} {L : Addr} {m : Str → Option Value} {env : Env} {ct elt : Expr} {x : Str} {scope : Scope} {cl : List (Str × Addr)} {s : Shared} {S : List (Addr × Obj) → Prop} {Fin : List Value → List (Addr × Obj) → Prop} {news : List (Addr × Obj)}
theorem rest_filter {xt : Str} (p : Nat → Bool)
    (turn : ∀ c u I oI C oC D m₂ ys h tk (E' : Value → Shared → Prop), c ∈ xt.cps.toList → NsObj oC m₂ → m₂ x = some (.str ⟨#[c]⟩ u) → Fr h₀ L h m → News h₀ L h ((I, oI) :: (C, oC) :: (D, lst ys) :: news) → Off3 I C D news → ((@Ne Nat I C) ∧ (@Ne Nat I D) ∧ (@Ne Nat C D)) →
      wpAny (model prog w) A (isTrue ct (compEnvC scope cl C env) (eval ct (compEnvC scope cl C env))) (fun b s' => if b = true then wpAny (model prog w) A (eval elt (compEnvC scope cl C env)) (CompEnd h₀ L m { s with heap := h, toks := tk } I oI C oC D (lst ys) S (fun _ news' => QEl p c news news')) E' s'
        else CompEnd h₀ L m { s with heap := h, toks := tk } I oI C oC D (lst ys) S (fun _ news' => QNo p c news news') Value.none s') E' { s with heap := h, toks := tk })
    (fin : ∀ ys, ys.length = (xt.cps.toList.filter p).length → ys.length ≤ xt.length → Fin ys news) :
    CompRestT prog w A h₀ L m env ct elt x scope cl s S (SignAt xt) Fin xt.cps.size 0 [] news := by
  have key : ∀ (j i : Nat) (ys : List Value), i + j = xt.cps.size → ys.length = ((xt.cps.toList.take i).filter p).length → CompRestT prog w A h₀ L m env ct elt x scope cl s S (SignAt xt) Fin j i ys news := by
    intro j
    induction j with
    | zero =>
      intro i ys hi hy
      rw [List.take_of_length_le (by simp; omega)] at hy
      refine CompRestT.zero (fin ys hy ?_)
      rw [hy]
      exact Nat.le_trans (List.length_filter_le _ _) (by simp [Str.length])
    | succ j ih =>
      intro i ys hi hy
      refine CompRestT.succ ?_
      rintro v I oI C oC D m₂ h tk E' ⟨c, u, hc, rfl⟩ hC hx F N off ne
      have hc' : xt.cps.toList[i]? = some c := by simpa using hc
      have hs : xt.cps.toList.take (i + 1) = xt.cps.toList.take i ++ [c] := by rw [List.take_add_one, hc']; rfl
      refine wpAny_mono (turn c u I oI C oC D m₂ ys h tk E' (List.mem_of_getElem? hc') hC hx F N off ne) (fun b s₂ hq => ?_) fun _ _ e => e
      cases b with
      | true =>
        simp only [if_true] at hq ⊢
        refine wpAny_mono hq (fun y s₃ hr => ?_) fun _ _ e => e
        obtain ⟨h', tk', nw, e, F', N', off', hS, hp, hn⟩ := hr
        rw [hn] at N' off' hS
        refine ⟨h', tk', news, e, F', N', off', hS, ih (i + 1) _ (by omega) ?_⟩
        rw [hs, List.filter_append, List.length_append, List.length_append, hy]
        simp [hp]
      | false =>
        simp only [Bool.false_eq_true, if_false] at hq ⊢
        obtain ⟨h', tk', nw, e, F', N', off', hS, hp, hn⟩ := hq
        rw [hn] at N' off' hS
        refine ⟨h', tk', news, e, F', N', off', hS, ih (i + 1) _ (by omega) ?_⟩
        rw [hs, List.filter_append, List.length_append, hy]
        simp [hp]
  exact key xt.cps.size 0 [] (by omega) (by simp)
end
local macro_rules | `(tactic| walk_at "my enterC") => `(tactic| k_dflt (refine' enter_cells ?k1 ?k2 ?k3 ?k5 ?kA ?kF ?kK ?k6 ?k7 ?k8 ?k9 ?kB ?kD ?k0 ?_ ?c2 ?c3 ?c4; (case kA => exact rfl); (case kF => exact rfl); (case kK => assumption); (case k1 => k_asm); (case k2 => k_asm); (case k3 => k_asm); (case k5 => k_asm); (case k6 => k_is); (case k7 => k_is); (case k8 => ktr_room); (case k9 => first | exact BindsTo.of_eq rfl | exact binds_K (by k_in) rfl (by k_is) rfl rfl rfl | fail "k_enter: no rule for these arguments"); (case kB => exact rfl); (case kD => decide +kernel); (case k0 => exact ⟨_, _, rfl, rfl⟩); (case c2 => exact rfl); (case c3 => exact rfl); (case c4 => exact rfl); k_whole; intro g' L' h' tk' cells' hsg' tk0' FG' F' N' Y' B' X' T'; k_cells Y'; (try dsimp only); (try k_lift B'); (try k_fold)))
local macro_rules | `(tactic| walk_at "eval ListComp") => `(tactic| (k_here; k_dflt (refine' ListComp_Tstr (F₀ := by k_asm) (by with_unfolding_all rfl) (by decide) (by rfl) (by decide) (by rfl) ?_)))
local macro_rules | `(tactic| walk_at "SrcS") => `(tactic| (k_here; k_dflt (refine' SrcS.mk (by rfl) (by k_asm) (by k_asm) ?sz ?_; (case sz => (show Str.length _ ≤ _); size_fits); intro g'; (refine' rest_filter (fun c => !tokS.contains c) (fun c' u' I' oI' C' oC' D' m' ys' h' tk' E' hc' hC' hx' F' N' off' ne' => ?_) ?fin); (all_goals (try (simp only [LCg.Off3, and_true] at off'))))))
theorem truthy_lst {prog : Program} {w : World} {A : Around} {E : Value → Shared → Prop} {s : Shared} {h₀ : Heap} {L D : Addr} {news : List (Addr × Obj)} {ys : List Value} {Q : Bool → Shared → Prop} (N : News h₀ L s.heap news) (hm : (D, lst ys) ∈ news) (hsz : ys.length < 2 ^ 62)
    (h : Q (!decide (ys.length = 0)) { s with toks := s.toks + 1 + 1 }) : wpAny (model prog w) A (truthy (.ref D)) Q E s := by
  refine wpAny_truthy_list (items := ys.toArray) ⟨_, (N _ hm).1, rfl, _, rfl⟩ (by simp; omega) ?_
  have e : (!ys.toArray.isEmpty) = (!decide (ys.length = 0)) := by
    cases ys <;> simp
  rw [e]; exact h
local macro_rules | `(tactic| walk_at "truthy ref") => `(tactic| (k_here; (refine' truthy_lst (by k_asm) ?km ?kz ?_; (case km => k_mem); (case kz => omega))))
local macro_rules | `(tactic| walk_at "execs cons") => `(tactic| (k_here; (with_reducible refine execs_cons_tk (by first | assumption | (dsimp only; omega)) ?_); try dsimp only))
local macro_rules | `(tactic| walk_at "execs nil") => `(tactic| (k_here; (with_reducible refine wpAny_execs_nil ?_); try dsimp only))
theorem rep1 {prog : Program} {w : World} {A : Around} {E : Value → Shared → Prop} {s : Shared} {l : List Nat} {t u v : Tok} {Q : Value → Shared → Prop} (hu : @Ne Nat u 0) (hv : @Ne Nat v 0) (huv : @Ne Nat u v) (h0 : 0 < s.toks) (hx : l.length ≤ 1048576)
    (hq : ∀ t' (k : Nat), 0 < k → Q (.str (S (sub1 92 [92, 92] l)) t') { s with toks := k }) : wpAny (model prog w) A (call (.builtin "str.replace") [.str (S l) t, .str (Str.ofString "\\") u, .str (Str.ofString "\\\\") v]) Q E s :=
  wpAny_with_toks (n := 1) h0 (wpAny_mono (SC.replaceW (Q := fun a s' => 1 ≤ s'.toks → Q a s') (E := E) hu hv huv (by decide +kernel) (by rw [S_len]; exact hx) (by decide +kernel) (by
    have e1 : Str.ofString "\\" = ⟨#[92]⟩ := by decide +kernel
    have e2 : Str.ofString "\\\\" = S [92, 92] := by decide +kernel
    rw [e1, e2, replace_sub1, cps_S]; exact hq)) (fun _ _ x => x) (fun _ _ x _ => x))
theorem rep2 {prog : Program} {w : World} {A : Around} {E : Value → Shared → Prop} {s : Shared} {l : List Nat} {t u v : Tok} {Q : Value → Shared → Prop} (hu : @Ne Nat u 0) (hv : @Ne Nat v 0) (huv : @Ne Nat u v) (h0 : 0 < s.toks) (hx : l.length ≤ 1048576)
    (hq : ∀ t' (k : Nat), 0 < k → Q (.str (S (sub1 34 [92, 34] l)) t') { s with toks := k }) : wpAny (model prog w) A (call (.builtin "str.replace") [.str (S l) t, .str (Str.ofString "\"") u, .str (Str.ofString "\\\"") v]) Q E s :=
  wpAny_with_toks (n := 1) h0 (wpAny_mono (SC.replaceW (Q := fun a s' => 1 ≤ s'.toks → Q a s') (E := E) hu hv huv (by decide +kernel) (by rw [S_len]; exact hx) (by decide +kernel) (by
    have e1 : Str.ofString "\"" = ⟨#[34]⟩ := by decide +kernel
    have e2 : Str.ofString "\\\"" = S [92, 34] := by decide +kernel
    rw [e1, e2, replace_sub1, cps_S]; exact hq)) (fun _ _ x => x) (fun _ _ x _ => x))
local macro_rules | `(tactic| walk_at "call builtin:str.replace") => `(tactic| (k_here; (try dsimp only [List.cons_append, List.nil_append]); first
  | (refine rep1 (by omega) (by omega) (by omega) (by dsimp only; omega) (by omega) ?_; intro _ _ _)
  | (refine rep2 (by omega) (by omega) (by omega) (by dsimp only; omega) (by omega) ?_; intro _ _ _)))
theorem field_str {prog : Program} {w : World} {A : Around} {E : Value → Shared → Prop} {s : Shared} {x : Str} {t : Tok} {Q : Value → Shared → Prop} (hx : x.length ≤ sizeLine) (h0 : 0 < s.toks) (h : ∀ (u : Tok) (k : Nat), 0 < k → Q (.str x u) { s with toks := k }) :
    wpAny (model prog w) A (formatField (.str x t) Str.empty) Q E s := wpAny_formatField_str (hx := hx) (h t s.toks h0) (h s.toks (s.toks + 1) (Nat.succ_pos _))
local macro_rules | `(tactic| walk_at "formatField str") => `(tactic| (k_here; (refine field_str (by size_fits) (by dsimp only; omega) ?_); intro _ _ _; (try dsimp only)))
theorem q_el {c : Nat} {b : Bool} (h : (Builtin.Str.occurrences (Str.ofString "!#$%&'*+-.0123456789ABCDEFGHIJKLMNOPQRSTUVWXYZ^_`abcdefghijklmnopqrstuvwxyz|~") ⟨#[c]⟩ 0 (Str.ofString "!#$%&'*+-.0123456789ABCDEFGHIJKLMNOPQRSTUVWXYZ^_`abcdefghijklmnopqrstuvwxyz|~").length 1).isEmpty = b) : (!tokS.contains c) = b := by
  have h1 := StrLaws.found_one (Str.ofString "!#$%&'*+-.0123456789ABCDEFGHIJKLMNOPQRSTUVWXYZ^_`abcdefghijklmnopqrstuvwxyz|~") c
  rw [h] at h1
  have h2 : tokS.contains c = decide (c ∈ tokS) := by
    rw [Bool.eq_iff_iff]; simp
  rw [h2]
  show (!decide (c ∈ (Str.ofString "!#$%&'*+-.0123456789ABCDEFGHIJKLMNOPQRSTUVWXYZ^_`abcdefghijklmnopqrstuvwxyz|~").cps.toList)) = b
  rw [← h1]; simp
theorem filter_len0 {v : List Nat} {ys : List Value} (h2 : ys.length = ((S v).cps.toList.filter (fun c => !tokS.contains c)).length) : ys.isEmpty = v.all (fun c => tokS.contains c) := by
  rw [cps_S] at h2
  rw [Bool.eq_iff_iff, List.isEmpty_iff, ← List.length_eq_zero_iff, h2, List.length_eq_zero_iff, List.filter_eq_nil_iff]
  simp
theorem q_tok {v : List Nat} {ys : List Value} (h1 : ((S v).length : Int) ≠ 0) (h2 : ys.length = ((S v).cps.toList.filter (fun c => !tokS.contains c)).length) (h3 : ys.isEmpty = true) : S v = S (quote v) := by
  rw [filter_len0 h2] at h3
  rw [S_len] at h1
  have : isTok v = true := by
    unfold isTok; rw [h3]; cases v <;> simp at h1 ⊢
  unfold quote; rw [if_pos this]
theorem q_quoted {v : List Nat} {ys : List Value} (h2 : ys.length = ((S v).cps.toList.filter (fun c => !tokS.contains c)).length) (h3 : ys.isEmpty = false) :
    Str.empty ++ Str.ofString "\"" ++ S (sub1 34 [92, 34] (sub1 92 [92, 92] v)) ++ Str.ofString "\"" = S (quote v) := by
  rw [filter_len0 h2] at h3
  have : ¬ isTok v = true := by
    unfold isTok; rw [h3]; simp
  unfold quote; rw [if_neg this]
  have e1 : Str.ofString "\"" = S [34] := by decide +kernel
  have e2 : Str.empty = S [] := rfl
  rw [e1, e2, S_app, S_app, S_app]
  simp [quoteF, esc]
theorem q_empty {v : List Nat} (h1 : ((S v).length : Int) = 0) : Str.ofString "\"\"" = S (quote v) := by
  rw [S_len] at h1
  have : v = [] := by cases v <;> simp at h1 ⊢; omega
  subst this
  decide +kernel
local macro_rules | `(tactic| walk_at "QEl") => `(tactic| exact ⟨q_el (by assumption), rfl⟩)
local macro_rules | `(tactic| walk_at "QNo") => `(tactic| exact ⟨q_el (by assumption), rfl⟩)
theorem fillK1Quote : PySem.Challenge.rw_vm0023_01 = PySem.Challenge.rw_vm0023_01 ∧ hd.heap_39 = hd.heap_39 := by
  k_fill
  exact ⟨rfl, rfl⟩
set_option maxRecDepth 100000 in
set_option maxHeartbeats 8000000 in
theorem con_quote (w : World) (mean : ExcName → Option Value) (mg mb : Str → Option Value) (v : List Nat) (tv : Tok) (hv : v.length ≤ 100) :
    Con w mean mg mb 1 (fun _ => True) 37 [.str (S v) tv] [] (fun _ _ r => ∃ t, r = .str (S (quote v)) t) := by
  intro dp un gd cn cs a ccd cl outer A₀ base h₀ L m s Q E B F X T hpre hk hdp hu ret
  have N : News h₀ L s.heap [] := News.nil
  have h92 := sub1_len (c := 92) (z := [92, 92]) (by decide) v
  have h34 := sub1_len (c := 34) (z := [92, 34]) (by decide) (sub1 92 [92, 92] v)
  have hS34 := S_len (sub1 34 [92, 34] (sub1 92 [92, 92] v))
  have hS : (S v).length ≤ 100 := by rw [S_len]; exact hv
  refine wpAny_call ?_
  walk_at "my enterC"
  k_steps
  all_goals (refine ret _ _ _ (stays_end (by assumption) (by assumption)) ?_)
  · exact ⟨_, str_eq (q_tok (by assumption) (by assumption) (by assumption))⟩
  · exact ⟨_, str_eq (q_quoted (by assumption) (by assumption))⟩
  · exact ⟨_, str_eq (q_empty (by assumption))⟩
theorem qF_quoted {v : List Nat} : Str.empty ++ Str.ofString "\"" ++ S (sub1 34 [92, 34] (sub1 92 [92, 92] v)) ++ Str.ofString "\"" = S (quoteF v) := by
  have e1 : Str.ofString "\"" = S [34] := by decide +kernel
  have e2 : Str.empty = S [] := rfl
  rw [e1, e2, S_app, S_app, S_app]
  simp [quoteF, esc]
theorem qF_empty {v : List Nat} (h1 : ((S v).length : Int) = 0) : Str.ofString "\"\"" = S (quoteF v) := by
  rw [S_len] at h1
  have : v = [] := by cases v <;> simp at h1 ⊢; omega
  subst this
  decide +kernel
set_option maxRecDepth 100000 in
set_option maxHeartbeats 8000000 in
theorem con_quoteF (w : World) (mean : ExcName → Option Value) (mg mb : Str → Option Value) (v : List Nat) (tv : Tok) (hv : v.length ≤ 100) :
    Con w mean mg mb 1 (fun _ => True) 37 [.str (S v) tv] [(Str.ofString "allow_token", .bool false)] (fun _ _ r => ∃ t, r = .str (S (quoteF v)) t) := by
  intro dp un gd cn cs a ccd cl outer A₀ base h₀ L m s Q E B F X T hpre hk hdp hu ret
  have N : News h₀ L s.heap [] := News.nil
  have h92 := sub1_len (c := 92) (z := [92, 92]) (by decide) v
  have h34 := sub1_len (c := 34) (z := [92, 34]) (by decide) (sub1 92 [92, 92] v)
  have hS34 := S_len (sub1 34 [92, 34] (sub1 92 [92, 92] v))
  have hS : (S v).length ≤ 100 := by rw [S_len]; exact hv
  refine wpAny_call ?_
  walk_at "my enterC"
  k_steps
  all_goals (refine ret _ _ _ (stays_end (by assumption) (by assumption)) ?_)
  · exact ⟨_, str_eq qF_quoted⟩
  · exact ⟨_, str_eq (qF_empty (by assumption))⟩
end Mine
end
section
open PySem PySem.Sre
namespace Mine
namespace RE

theorem runFor_done {m : M} (h : m.outcome.isSome = true) : ∀ n, m.runFor n = m
  | 0 => rfl
  | n + 1 => by unfold M.runFor; rw [if_pos h]
theorem runFor_succ {m : M} (h : m.outcome = none) (n : Nat) : m.runFor (n + 1) = m.step.runFor n := by
  show (if m.outcome.isSome then m else M.runFor n m.step) = _
  rw [h]; rfl
theorem runFor_add (a b : Nat) : ∀ m : M, m.runFor (a + b) = (m.runFor a).runFor b := by
  induction a with
  | zero => intro m; rw [Nat.zero_add]; rfl
  | succ a ih =>
    intro m
    cases h : m.outcome with
    | none => rw [show a + 1 + b = (a + b) + 1 by omega, runFor_succ h, runFor_succ h, ih]
    | some o =>
      have hs : m.outcome.isSome = true := by rw [h]; rfl
      rw [runFor_done hs, runFor_done hs, runFor_done hs]
theorem runFor_end {m : M} {a b : Nat} (ha : (m.runFor a).outcome.isSome = true) (hb : (m.runFor b).outcome.isSome = true) : m.runFor a = m.runFor b := by
  rcases Nat.le_total a b with h | h
  · obtain ⟨c, rfl⟩ := Nat.exists_eq_add_of_le h
    rw [runFor_add, runFor_done ha]
  · obtain ⟨c, rfl⟩ := Nat.exists_eq_add_of_le h
    rw [runFor_add, runFor_done hb]

/-- in at most B steps the machine comes from m to m', whatever was seen -/
def Goes (B : Nat) (m m' : M) : Prop := ∀ sn, ∃ k, k ≤ B ∧ ∃ sn', ({ m with seen := sn } : M).runFor k = { m' with seen := sn' }
theorem Goes.refl (m : M) : Goes 0 m m := fun sn => ⟨0, Nat.le_refl _, sn, rfl⟩
theorem Goes.trans {a b : Nat} {m m' m'' : M} (x : Goes a m m') (y : Goes b m' m'') : Goes (a + b) m m'' := fun sn => by
  obtain ⟨k, hk, sn', e⟩ := x sn
  obtain ⟨j, hj, sn'', e'⟩ := y sn'
  exact ⟨k + j, by omega, sn'', by rw [runFor_add, e, e']⟩
theorem Goes.le {a b : Nat} {m m' : M} (x : Goes a m m') (h : a ≤ b) : Goes b m m' := fun sn => by
  obtain ⟨k, hk, r⟩ := x sn
  exact ⟨k, by omega, r⟩
theorem Goes.one {m m' : M} (h : m.outcome = none) (e : ∀ sn, ∃ sn', ({ m with seen := sn } : M).step = { m' with seen := sn' }) : Goes 1 m m' := fun sn => by
  obtain ⟨sn', e⟩ := e sn
  exact ⟨1, Nat.le_refl _, sn', (runFor_succ (m := { m with seen := sn }) h 0).trans e⟩

/-- the signs that [\w!#$%&'*+\-.^`|~] takes -/
def tokC (c : Nat) : Bool := (c < 256 && ((#[0, 27898, 1073741824, 1342177281, 0, 0, 0, 0] : Array Nat).getD (c / 32) 0).testBit (c % 32)) || isWord c
theorem tokC_eq (c : Nat) : tokC c = tokS.contains c := by
  by_cases h : c < 256
  · have key : ∀ k : Fin 256, tokC k.val = tokS.contains k.val := by decide +kernel
    exact key ⟨c, h⟩
  · have h1 : tokC c = false := by
      unfold tokC isWord isDigit
      have : decide (c < 256) = false := by simpa using h
      rw [this, Bool.false_and, Bool.false_or]
      simp; omega
    have h2 : tokS.all (fun k => decide (k < 256)) = true := by decide +kernel
    rw [h1]
    symm
    rw [Bool.eq_false_iff]
    intro hc
    have := List.all_eq_true.mp h2 c (by simpa using hc)
    exact h (by simpa using this)

theorem run_ok {code text : Array Nat} {i : Nat} {f : Nat → Bool} (hacc : ∀ c sn, ∃ sn', accepts code i c sn = .ok (f c, sn')) :
    ∀ (n p found : Nat) (sn : Seen), p + n ≤ text.size → ∃ sn', Sre.run code text i n p found sn = .ok (found + (((text.toList.drop p).take n).takeWhile f).length, sn') := by
  intro n
  induction n with
  | zero => intro p found sn _; exact ⟨sn, by simp [Sre.run]⟩
  | succ n ih =>
    intro p found sn hp
    have hlt : p < text.toList.length := by simp; omega
    have hd : text.toList.drop p = text.getD p 0 :: text.toList.drop (p + 1) := by
      rw [List.drop_eq_getElem_cons hlt]
      congr 1
      simp [Array.getD, show p < text.size by omega]
    obtain ⟨sn', e⟩ := hacc (text.getD p 0) sn
    rw [hd, List.take_succ_cons]
    unfold Sre.run
    rw [e]
    cases hf : f (text.getD p 0) with
    | true =>
      obtain ⟨sn'', e'⟩ := ih (p + 1) (found + 1) sn' (by omega)
      refine ⟨sn'', ?_⟩
      rw [List.takeWhile_cons_of_pos hf, List.length_cons]
      show Sre.run code text i n (p + 1) (found + 1) sn' = _
      rw [e']
      congr 2; omega
    | false =>
      refine ⟨sn', ?_⟩
      rw [List.takeWhile_cons_of_neg (by rw [hf]; exact Bool.false_ne_true)]
      show (pure (found, sn') : Except String (Nat × Seen)) = _
      rfl

/-- the machine, with the fields that our patterns turn -/
def mk (code text : Array Nat) (lim start ls : Nat) (ma : Bool) (pc pos handed : Nat) (om : Bool) (marks : Array (Option Nat)) (lm li : Int) (frames : List Sre.Frame) (weight : Nat) (ans : Option Bool) (out : Option Sre.Outcome) : M :=
  { code, text, lim, start, lastStart := ls, mustAdvance := ma, pc, pos, handed, outermost := om, marks, lastmark := lm, lastindex := li, frames, weight, answer := ans, outcome := out }
section
variable {code text : Array Nat} {lim start ls : Nat} {ma : Bool} {pc pos handed : Nat} {om : Bool} {marks : Array (Option Nat)} {lm li : Int} {frames : List Sre.Frame} {weight : Nat}

theorem step_exec {m : M} (ho : m.outcome = none) (ha : m.answer = none) (hpc : m.pc < m.code.size) : m.step = m.exec := by
  unfold M.step
  rw [ho, ha]
  simp only [Option.isSome_none, Bool.false_eq_true, if_false]
  rw [if_pos hpc]

theorem exec_mark {m : M} (hop : ops[m.word 0]? = some .MARK) : m.exec = ({ m with seen := m.seen.add (m.word 0) } : M).mark (m.word 1) := by
  unfold M.exec; rw [hop]; rfl
theorem mark_next {m : M} {i : Nat} (hi : (i : Int) ≤ m.lastmark + 1) : m.mark i = { m with marks := m.marks.setIfInBounds i (some m.pos), lastmark := max m.lastmark i, lastindex := if i % 2 == 1 then (i / 2 + 1 : Nat) else m.lastindex, pc := m.pc + 2 } := by
  unfold M.mark; rw [if_pos hi]
theorem go_mark (hpc : pc < code.size) (hop : ops[code.getD pc 0]? = some .MARK) (hi : ((code.getD (pc + 1) 0 : Nat) : Int) ≤ lm + 1) :
    Goes 1 (mk code text lim start ls ma pc pos handed om marks lm li frames weight none none)
      (mk code text lim start ls ma (pc + 2) pos handed om (marks.setIfInBounds (code.getD (pc + 1) 0) (some pos)) (max lm (code.getD (pc + 1) 0 : Nat))
        (if code.getD (pc + 1) 0 % 2 == 1 then (code.getD (pc + 1) 0 / 2 + 1 : Nat) else li) frames weight none none) :=
  Goes.one rfl fun sn => ⟨sn.add (code.getD pc 0), by
    rw [step_exec rfl rfl hpc, exec_mark (m := { mk code text lim start ls ma pc pos handed om marks lm li frames weight none none with seen := sn }) hop]
    exact mark_next hi⟩
theorem exec_lit {m : M} {b : Bool} {sn : Seen} (hop : ops[m.word 0]? = some .LITERAL) (hp : m.pos < m.lim) (e : accepts m.code m.pc (m.text.getD m.pos 0) (m.seen.add (m.word 0)) = .ok (b, sn)) :
    m.exec = if b = true then { m with seen := sn, pc := m.pc + itemWidth m.code m.pc, pos := m.pos + 1 } else ({ m with seen := sn } : M).say false := by
  unfold M.exec; rw [hop]; dsimp only
  rw [if_neg (by omega), e]
  cases b <;> rfl
theorem exec_lit_end {m : M} (hop : ops[m.word 0]? = some .LITERAL) (hp : m.lim ≤ m.pos) : m.exec = ({ m with seen := m.seen.add (m.word 0) } : M).say false := by
  unfold M.exec; rw [hop]; dsimp only
  rw [if_pos hp]
theorem exec_any {m : M} {b : Bool} {sn : Seen} (hop : ops[m.word 0]? = some .ANY) (hp : m.pos < m.lim) (e : accepts m.code m.pc (m.text.getD m.pos 0) (m.seen.add (m.word 0)) = .ok (b, sn)) :
    m.exec = if b = true then { m with seen := sn, pc := m.pc + itemWidth m.code m.pc, pos := m.pos + 1 } else ({ m with seen := sn } : M).say false := by
  unfold M.exec; rw [hop]; dsimp only
  rw [if_neg (by omega), e]
  cases b <;> rfl
theorem exec_any_end {m : M} (hop : ops[m.word 0]? = some .ANY) (hp : m.lim ≤ m.pos) : m.exec = ({ m with seen := m.seen.add (m.word 0) } : M).say false := by
  unfold M.exec; rw [hop]; dsimp only
  rw [if_pos hp]
theorem accepts_lit {i c : Nat} {sn : Seen} (hop : ops[code.getD i 0]? = some .LITERAL) : accepts code i c sn = .ok (c == code.getD (i + 1) 0, sn) := by
  unfold accepts; rw [hop]
theorem accepts_any {i c : Nat} {sn : Seen} (hop : ops[code.getD i 0]? = some .ANY) : accepts code i c sn = .ok (c != 10, sn) := by
  unfold accepts; rw [hop]
theorem width_lit {i : Nat} (hop : ops[code.getD i 0]? = some .LITERAL) : itemWidth code i = 2 := by unfold itemWidth; rw [hop]
theorem width_any {i : Nat} (hop : ops[code.getD i 0]? = some .ANY) : itemWidth code i = 1 := by unfold itemWidth; rw [hop]
theorem go_literal_yes {c : Nat} (hpc : pc < code.size) (hop : ops[code.getD pc 0]? = some .LITERAL) (hc : code.getD (pc + 1) 0 = c) (hp : pos < lim) (ht : text.getD pos 0 = c) :
    Goes 1 (mk code text lim start ls ma pc pos handed om marks lm li frames weight none none) (mk code text lim start ls ma (pc + 2) (pos + 1) handed om marks lm li frames weight none none) :=
  Goes.one rfl fun sn => ⟨sn.add (code.getD pc 0), by
    rw [step_exec rfl rfl hpc, exec_lit (m := { mk code text lim start ls ma pc pos handed om marks lm li frames weight none none with seen := sn }) hop hp (accepts_lit hop)]
    have hb : (text.getD pos 0 == code.getD (pc + 1) 0) = true := by rw [ht, hc]; exact beq_self_eq_true c
    show (if (text.getD pos 0 == code.getD (pc + 1) 0) = true then _ else _) = _
    rw [if_pos hb]
    show ({ mk code text lim start ls ma (pc + itemWidth code pc) (pos + 1) handed om marks lm li frames weight none none with seen := sn.add (code.getD pc 0) } : M) = _
    rw [width_lit hop]⟩
theorem go_literal_no {c : Nat} (hpc : pc < code.size) (hop : ops[code.getD pc 0]? = some .LITERAL) (hc : code.getD (pc + 1) 0 = c) (hp : lim ≤ pos ∨ text.getD pos 0 ≠ c) :
    Goes 1 (mk code text lim start ls ma pc pos handed om marks lm li frames weight none none) (mk code text lim start ls ma pc pos handed om marks lm li frames weight (some false) none) :=
  Goes.one rfl fun sn => ⟨sn.add (code.getD pc 0), by
    by_cases h : lim ≤ pos
    · rw [step_exec rfl rfl hpc, exec_lit_end (m := { mk code text lim start ls ma pc pos handed om marks lm li frames weight none none with seen := sn }) hop h]
      rfl
    · rw [step_exec rfl rfl hpc, exec_lit (m := { mk code text lim start ls ma pc pos handed om marks lm li frames weight none none with seen := sn }) hop (Nat.lt_of_not_le h) (accepts_lit hop)]
      have hb : ¬ (text.getD pos 0 == code.getD (pc + 1) 0) = true := by
        rw [hc, beq_iff_eq]
        exact hp.resolve_left h
      show (if (text.getD pos 0 == code.getD (pc + 1) 0) = true then _ else _) = _
      rw [if_neg hb]
      rfl⟩
theorem go_any_yes (hpc : pc < code.size) (hop : ops[code.getD pc 0]? = some .ANY) (hp : pos < lim) (ht : text.getD pos 0 ≠ 10) :
    Goes 1 (mk code text lim start ls ma pc pos handed om marks lm li frames weight none none) (mk code text lim start ls ma (pc + 1) (pos + 1) handed om marks lm li frames weight none none) :=
  Goes.one rfl fun sn => ⟨sn.add (code.getD pc 0), by
    rw [step_exec rfl rfl hpc, exec_any (m := { mk code text lim start ls ma pc pos handed om marks lm li frames weight none none with seen := sn }) hop hp (accepts_any hop)]
    have hb : (text.getD pos 0 != 10) = true := by simpa using ht
    show (if (text.getD pos 0 != 10) = true then _ else _) = _
    rw [if_pos hb]
    show ({ mk code text lim start ls ma (pc + itemWidth code pc) (pos + 1) handed om marks lm li frames weight none none with seen := sn.add (code.getD pc 0) } : M) = _
    rw [width_any hop]⟩
theorem go_any_no (hpc : pc < code.size) (hop : ops[code.getD pc 0]? = some .ANY) (hp : lim ≤ pos ∨ text.getD pos 0 = 10) :
    Goes 1 (mk code text lim start ls ma pc pos handed om marks lm li frames weight none none) (mk code text lim start ls ma pc pos handed om marks lm li frames weight (some false) none) :=
  Goes.one rfl fun sn => ⟨sn.add (code.getD pc 0), by
    by_cases h : lim ≤ pos
    · rw [step_exec rfl rfl hpc, exec_any_end (m := { mk code text lim start ls ma pc pos handed om marks lm li frames weight none none with seen := sn }) hop h]
      rfl
    · rw [step_exec rfl rfl hpc, exec_any (m := { mk code text lim start ls ma pc pos handed om marks lm li frames weight none none with seen := sn }) hop (Nat.lt_of_not_le h) (accepts_any hop)]
      have hb : ¬ (text.getD pos 0 != 10) = true := by
        rw [hp.resolve_left h]; decide
      show (if (text.getD pos 0 != 10) = true then _ else _) = _
      rw [if_neg hb]
      rfl⟩
theorem exec_success {m : M} (hop : ops[m.word 0]? = some .SUCCESS) (hw : m.wholeText = false) (h : (m.outermost && (m.mustAdvance && m.pos == m.start)) = false) :
    m.exec = ({ m with seen := m.seen.add (m.word 0), handed := m.pos } : M).say true := by
  unfold M.exec; rw [hop]; dsimp only
  rw [if_neg (by rw [hw, Bool.false_and, Bool.false_or, h]; exact Bool.false_ne_true)]
theorem go_success (hpc : pc < code.size) (hop : ops[code.getD pc 0]? = some .SUCCESS) (hm : (om && (ma && pos == start)) = false) :
    Goes 1 (mk code text lim start ls ma pc pos handed om marks lm li frames weight none none) (mk code text lim start ls ma pc pos pos om marks lm li frames weight (some true) none) :=
  Goes.one rfl fun sn => ⟨sn.add (code.getD pc 0), by
    rw [step_exec rfl rfl hpc, exec_success (m := { mk code text lim start ls ma pc pos handed om marks lm li frames weight none none with seen := sn }) hop rfl hm]
    rfl⟩
/-- the last answer, no frame left -/
theorem go_out (yes : Bool) : Goes 1 (mk code text lim start ls ma pc pos handed om marks lm li [] weight (some yes) none) (mk code text lim start ls ma pc pos handed om marks lm li [] weight (some yes) (some (if yes then .matched else .failed))) :=
  Goes.one rfl fun sn => ⟨sn, rfl⟩
/-- an answer comes back to a frame -/
theorem go_back {f : Sre.Frame} {yes : Bool} {m' : M} (h : ∀ sn, M.resume { mk code text lim start ls ma f.pc f.pos handed f.outermost marks lm li frames (weight - (1 + f.kept.marks.size)) none none with seen := sn } f yes = { m' with seen := sn }) :
    Goes 1 (mk code text lim start ls ma pc pos handed om marks lm li (f :: frames) weight (some yes) none) m' :=
  Goes.one rfl fun sn => ⟨sn, h sn⟩
/-- a greedy run of one-sign items -/
theorem exec_repeat {m : M} {n : Nat} {sn : Seen} (hop : ops[m.word 0]? = some .REPEAT_ONE) (hr : ¬ ((m.word 2 : Nat) : Int) > (m.lim : Int) - m.pos)
    (e : Sre.run m.code m.text (m.pc + 4) (min (m.word 3) ((m.lim : Int) - m.pos).toNat) m.pos 0 ((m.seen.add (m.word 0)).add (m.word 4)) = .ok (n, sn)) :
    m.exec = if n < m.word 2 then ({ m with seen := sn } : M).say false else ({ m with seen := sn, pos := m.pos + n } : M).afterRun .giveBack n (({ m with seen := sn, pos := m.pos + n } : M).keep m.inner.isSome) := by
  unfold M.exec; rw [hop]; dsimp only
  split
  · rename_i h; exact absurd h hr
  · split
    · rename_i why he; exact absurd (he.symm.trans e) (by intro q; cases q)
    · rename_i n' sn' he
      have q := he.symm.trans e
      cases q
      rfl
theorem exec_repeat_far {m : M} (hop : ops[m.word 0]? = some .REPEAT_ONE) (hr : ((m.word 2 : Nat) : Int) > (m.lim : Int) - m.pos) : m.exec = ({ m with seen := m.seen.add (m.word 0) } : M).say false := by
  unfold M.exec; rw [hop]; dsimp only
  split
  · rfl
  · rename_i h; exact absurd hr h
theorem attempt_ok {m : M} {f : Sre.Frame} {t p : Nat} {om : Bool} (h : m.weight + 1 + f.kept.marks.size ≤ 16777216) :
    m.attempt f t p om = { m with frames := f :: m.frames, weight := m.weight + 1 + f.kept.marks.size, pc := t, pos := p, handed := p, outermost := om } := by
  unfold M.attempt; rw [if_neg (by omega)]
theorem go_repeat {f : Nat → Bool} {least most : Nat} (hpc : pc < code.size) (hop : ops[code.getD pc 0]? = some .REPEAT_ONE) (hl : code.getD (pc + 2) 0 = least) (hm : code.getD (pc + 3) 0 = most) (hmx : lim - pos ≤ most) (hlim : lim = text.size) (hpos : pos ≤ lim)
    (hacc : ∀ c sn, ∃ sn', accepts code (pc + 4) c sn = .ok (f c, sn')) (hw : weight < 1000000)
    {n : Nat} (hn : n = ((text.toList.drop pos).takeWhile f).length) (hln : least ≤ n) :
    Goes 1 (mk code text lim start ls ma pc pos handed om marks lm li frames weight none none)
      (mk code text lim start ls ma (pc + 1 + code.getD (pc + 1) 0) (pos + n) (pos + n) om marks lm li ({ wait := .giveBack, pc := pc, pos := pos + n, outermost := om, count := n, kept := { lastmark := lm, lastindex := li } } :: frames) (weight + 1) none none) :=
  Goes.one rfl fun sn => by
    have hnl : n ≤ lim - pos := by
      rw [hn, hlim]
      refine Nat.le_trans (List.takeWhile_sublist f).length_le ?_
      simp
    have hr : ((lim : Int) - pos).toNat = lim - pos := by omega
    have hmin : min most (lim - pos) = lim - pos := Nat.min_eq_right hmx
    obtain ⟨sn', e⟩ := run_ok (text := text) hacc (lim - pos) pos 0 ((sn.add (code.getD pc 0)).add (code.getD (pc + 4) 0)) (by omega)
    have ht : ((text.toList.drop pos).take (lim - pos)) = text.toList.drop pos := List.take_of_length_le (by simp; omega)
    rw [ht, Nat.zero_add, ← hn] at e
    refine ⟨sn', ?_⟩
    rw [step_exec rfl rfl hpc, exec_repeat (m := { mk code text lim start ls ma pc pos handed om marks lm li frames weight none none with seen := sn }) (n := n) (sn := sn') hop
      (by show ¬ ((code.getD (pc + 2) 0 : Nat) : Int) > (lim : Int) - pos; rw [hl]; omega)
      (by show Sre.run code text (pc + 4) (min (code.getD (pc + 3) 0) ((lim : Int) - pos).toNat) pos 0 _ = _; rw [hm, hr, hmin]; exact e)]
    show (if n < code.getD (pc + 2) 0 then _ else _) = _
    rw [hl, if_neg (by omega)]
    unfold M.afterRun
    rw [attempt_ok (by show weight + 1 + 0 ≤ _; omega)]
    rfl
theorem go_repeat_no {f : Nat → Bool} {least most : Nat} (hpc : pc < code.size) (hop : ops[code.getD pc 0]? = some .REPEAT_ONE) (hl : code.getD (pc + 2) 0 = least) (hm : code.getD (pc + 3) 0 = most) (hmx : lim - pos ≤ most) (hlim : lim = text.size) (hpos : pos ≤ lim)
    (hacc : ∀ c sn, ∃ sn', accepts code (pc + 4) c sn = .ok (f c, sn'))
    (hln : ((text.toList.drop pos).takeWhile f).length < least) :
    Goes 1 (mk code text lim start ls ma pc pos handed om marks lm li frames weight none none)
      (mk code text lim start ls ma pc pos handed om marks lm li frames weight (some false) none) :=
  Goes.one rfl fun sn => by
    have hr : ((lim : Int) - pos).toNat = lim - pos := by omega
    have hmin : min most (lim - pos) = lim - pos := Nat.min_eq_right hmx
    obtain ⟨sn', e⟩ := run_ok (text := text) hacc (lim - pos) pos 0 ((sn.add (code.getD pc 0)).add (code.getD (pc + 4) 0)) (by omega)
    have ht : ((text.toList.drop pos).take (lim - pos)) = text.toList.drop pos := List.take_of_length_le (by simp; omega)
    rw [ht, Nat.zero_add] at e
    by_cases hroom : (least : Int) > (lim : Int) - pos
    · refine ⟨sn.add (code.getD pc 0), ?_⟩
      rw [step_exec rfl rfl hpc, exec_repeat_far (m := { mk code text lim start ls ma pc pos handed om marks lm li frames weight none none with seen := sn }) hop
        (by show ((code.getD (pc + 2) 0 : Nat) : Int) > (lim : Int) - pos; rw [hl]; exact hroom)]
      rfl
    · refine ⟨sn', ?_⟩
      rw [step_exec rfl rfl hpc, exec_repeat (m := { mk code text lim start ls ma pc pos handed om marks lm li frames weight none none with seen := sn }) (sn := sn') hop
        (by show ¬ ((code.getD (pc + 2) 0 : Nat) : Int) > (lim : Int) - pos; rw [hl]; exact hroom)
        (by show Sre.run code text (pc + 4) (min (code.getD (pc + 3) 0) ((lim : Int) - pos).toNat) pos 0 _ = _; rw [hm, hr, hmin]; exact e)]
      show (if _ < code.getD (pc + 2) 0 then _ else _) = _
      rw [hl, if_pos hln]
      rfl
end
end RE
end Mine
end
section
open PySem PySem.Sre
namespace Mine
namespace RE
abbrev cU : Array Nat := #[14, 8, 1, 2, 2, 1, 1, 92, 0, 16, 92, 17, 0, 2, 17, 1, 1]
abbrev cK : Array Nat := #[14, 4, 0, 2, 4294967295, 17, 0, 24, 18, 1, 4294967295, 13, 13, 9, 0, 27898, 1073741824, 1342177281, 0, 0, 0, 0, 8, 4, 0, 1, 17, 1, 16, 61, 1]
abbrev cM : Array Nat := #[14, 4, 0, 0, 4294967295, 23, 19, 0, 1, 16, 42, 17, 0, 24, 9, 1, 4294967295, 13, 4, 8, 0, 0, 1, 17, 1, 18, 23, 9, 0, 1, 17, 2, 16, 42, 17, 3, 18, 6, 5, 1]
abbrev cT : Array Nat := #[14, 4, 0, 1, 4294967295, 24, 18, 1, 4294967295, 13, 13, 9, 0, 27898, 1073741824, 1342177281, 0, 0, 0, 0, 8, 4, 0, 1, 1]
abbrev cD : Array Nat := #[14, 8, 1, 1, 4294967295, 1, 1, 59, 0, 16, 59, 24, 11, 0, 4294967295, 13, 6, 16, 32, 16, 9, 0, 1, 1]

theorem word_cat (c : Nat) : category 4 c = .ok (isWord c) := by
  unfold category
  show Except.map _ (Except.ok (isWord c)) = _
  show Except.ok (isWord c != false) = _
  cases isWord c <;> rfl
theorem acc_charset {code : Array Nat} {i : Nat} (hop : ops[code.getD i 0]? = some .IN) {f : Nat} (hs : code.size = f + 3) (h1 : code.getD (i + 2) 0 = 9) (h2 : ∀ q : Fin 8, code.getD (i + 2 + (1 + q.val)) 0 = (#[0, 27898, 1073741824, 1342177281, 0, 0, 0, 0] : Array Nat).getD q.val 0)
    (h3 : code.getD (i + 2 + 9) 0 = 8) (h4 : code.getD (i + 2 + 9 + 1) 0 = 4) (h5 : code.getD (i + 2 + 9 + 2) 0 = 0) (c : Nat) (sn : Seen) : ∃ sn', accepts code i c sn = .ok (tokC c, sn') := by
  have e0 : accepts code i c sn = inSet code c (f + 3) (i + 2) true sn := by
    unfold accepts; rw [hop, ← hs]
  rw [e0]
  have o9 : ops[(9 : Nat)]? = some Op.CHARSET := rfl
  have o8 : ops[(8 : Nat)]? = some Op.CATEGORY := rfl
  have o0 : ops[(0 : Nat)]? = some Op.FAILURE := rfl
  have key : (decide (c < 256) && (code.getD (i + 2 + (1 + c / 32)) 0).testBit (c % 32)) = (decide (c < 256) && ((#[0, 27898, 1073741824, 1342177281, 0, 0, 0, 0] : Array Nat).getD (c / 32) 0).testBit (c % 32)) := by
    by_cases h : c < 256
    · have := h2 ⟨c / 32, by omega⟩
      dsimp only at this
      rw [this]
    · simp [h]
  unfold inSet
  dsimp only
  rw [Nat.add_zero, h1, o9]
  dsimp only
  rw [key]
  unfold tokC
  cases hb : (decide (c < 256) && ((#[0, 27898, 1073741824, 1342177281, 0, 0, 0, 0] : Array Nat).getD (c / 32) 0).testBit (c % 32)) with
  | true => exact ⟨_, by rw [if_pos rfl]; rfl⟩
  | false =>
    rw [if_neg Bool.false_ne_true]
    unfold inSet
    dsimp only
    rw [Nat.add_zero, h3, o8]
    dsimp only
    rw [h4, word_cat]
    cases hw : isWord c with
    | true => exact ⟨_, rfl⟩
    | false =>
      unfold inSet
      dsimp only
      rw [Nat.add_zero, h5, o0]
      exact ⟨_, rfl⟩
theorem acc_K (c : Nat) (sn : Seen) : ∃ sn', accepts cK (7 + 4) c sn = .ok (tokC c, sn') := acc_charset (f := 28) rfl rfl rfl (by decide) rfl rfl rfl c sn
theorem acc_T (c : Nat) (sn : Seen) : ∃ sn', accepts cT (5 + 4) c sn = .ok (tokC c, sn') := acc_charset (f := 22) rfl rfl rfl (by decide) rfl rfl rfl c sn
def blankC (c : Nat) : Bool := c == 32 || c == 9
theorem acc_D (c : Nat) (sn : Seen) : ∃ sn', accepts cD (11 + 4) c sn = .ok (blankC c, sn') := by
  show ∃ sn', inSet cD c (21 + 3) 17 true sn = _
  unfold inSet
  show ∃ sn', (if (c == 32) = true then _ else _) = _
  unfold blankC
  cases h : c == 32 with
  | true => exact ⟨_, by rw [if_pos rfl]; rfl⟩
  | false =>
    rw [if_neg Bool.false_ne_true]
    unfold inSet
    show ∃ sn', (if (c == 9) = true then _ else _) = _
    cases h' : c == 9 with
    | true => exact ⟨_, by rw [if_pos rfl]; rfl⟩
    | false =>
      rw [if_neg Bool.false_ne_true]
      unfold inSet
      exact ⟨_, rfl⟩
theorem fm_K (text : Array Nat) (pos lim : Nat) : ∃ sn, forMatch cK text 1 pos lim false false = (if (decide (pos ≤ lim) && decide (lim - pos < 2)) = true then { mk cK text lim pos 0 false 5 pos pos true #[none, none] (-1) (-1) [] 0 (some false) none with seen := sn } else { mk cK text lim pos 0 false 5 pos pos true #[none, none] (-1) (-1) [] 0 none none with seen := sn }) := ⟨_, rfl⟩
theorem fm_T (text : Array Nat) (pos lim : Nat) : ∃ sn, forMatch cT text 0 pos lim false false = (if (decide (pos ≤ lim) && decide (lim - pos < 1)) = true then { mk cT text lim pos 0 false 5 pos pos true #[] (-1) (-1) [] 0 (some false) none with seen := sn } else { mk cT text lim pos 0 false 5 pos pos true #[] (-1) (-1) [] 0 none none with seen := sn }) := ⟨_, rfl⟩

/-- the run of signs that f takes, from p on -/
def runL (f : Nat → Bool) (text : Array Nat) (p : Nat) : Nat := ((text.toList.drop p).takeWhile f).length
theorem runL_le (f : Nat → Bool) (text : Array Nat) (p : Nat) : runL f text p ≤ text.size - p := by
  refine Nat.le_trans (List.takeWhile_sublist f).length_le ?_
  simp
theorem runL_at {f : Nat → Bool} {text : Array Nat} {p k : Nat} (h : k < runL f text p) : f (text.getD (p + k) 0) = true := by
  have hk : p + k < text.size := by have := runL_le f text p; omega
  have h1 : ((text.toList.drop p).takeWhile f)[k]? = (text.toList.drop p)[k]? := by
    have hp := List.takeWhile_prefix f (l := text.toList.drop p)
    obtain ⟨t, ht⟩ := hp
    conv => rhs; rw [← ht]
    rw [List.getElem?_append_left h]
  have h2 : (text.toList.drop p)[k]? = some (text.getD (p + k) 0) := by
    rw [List.getElem?_drop]
    simp [Array.getD, hk]
  rw [h2] at h1
  have hm := List.mem_of_getElem? h1
  exact List.all_eq_true.mp (List.all_takeWhile (l := text.toList.drop p) (p := f)) _ hm
theorem runL_end {f : Nat → Bool} {text : Array Nat} {p : Nat} (h : p + runL f text p < text.size) : f (text.getD (p + runL f text p) 0) = false := by
  have h2 : (text.toList.drop p)[runL f text p]? = some (text.getD (p + runL f text p) 0) := by
    rw [List.getElem?_drop]
    simp [Array.getD, h]
  have e := List.takeWhile_append_dropWhile (p := f) (l := text.toList.drop p)
  have h3 : (text.toList.drop p)[runL f text p]? = ((text.toList.drop p).dropWhile f)[0]? := by
    conv => lhs; rw [← e]
    rw [List.getElem?_append_right (by unfold runL; exact Nat.le_refl _)]
    simp [runL]
  rw [h2] at h3
  cases hd : (text.toList.drop p).dropWhile f with
  | nil => rw [hd] at h3; cases h3
  | cons a r =>
    rw [hd] at h3
    have ha : text.getD (p + runL f text p) 0 = a := by simpa using h3
    rw [ha]
    have := List.head?_dropWhile_not f (text.toList.drop p)
    rw [hd] at this
    simpa using this

/-- what a run of the machine that is to end says: matched at m', or failed -/
def Ends (B : Nat) (m : M) (r : Option (Nat × Nat × Array (Option Nat) × Int × Int)) : Prop :=
  ∃ k, k ≤ B ∧ match r with
    | some (st, hd, marks, lm, li) => (m.runFor k).outcome = some .matched ∧ (m.runFor k).start = st ∧ (m.runFor k).handed = hd ∧ (m.runFor k).marks = marks ∧ (m.runFor k).lastmark = lm ∧ (m.runFor k).lastindex = li
    | none => (m.runFor k).outcome = some .failed
theorem Ends.yes {B : Nat} {m : M} {sn : Seen} {code text : Array Nat} {lim start ls : Nat} {ma : Bool} {pc pos handed : Nat} {om : Bool} {marks : Array (Option Nat)} {lm li : Int} {weight : Nat}
    (g : Goes B m (mk code text lim start ls ma pc pos handed om marks lm li [] weight (some true) none)) : Ends (B + 1) { m with seen := sn } (some (start, handed, marks, lm, li)) := by
  obtain ⟨k, hk, sn', e⟩ := g.trans (go_out true) sn
  refine ⟨k, hk, ?_⟩
  rw [e]
  exact ⟨rfl, rfl, rfl, rfl, rfl, rfl⟩
theorem Ends.no {B : Nat} {m : M} {sn : Seen} {code text : Array Nat} {lim start ls : Nat} {ma : Bool} {pc pos handed : Nat} {om : Bool} {marks : Array (Option Nat)} {lm li : Int} {weight : Nat}
    (g : Goes B m (mk code text lim start ls ma pc pos handed om marks lm li [] weight (some false) none)) : Ends (B + 1) { m with seen := sn } none := by
  obtain ⟨k, hk, sn', e⟩ := g.trans (go_out false) sn
  refine ⟨k, hk, ?_⟩
  show (({ m with seen := sn } : M).runFor k).outcome = some .failed
  rw [e]
  rfl
theorem Ends.le {a b : Nat} {m : M} {r : Option (Nat × Nat × Array (Option Nat) × Int × Int)} (x : Ends a m r) (h : a ≤ b) : Ends b m r := by
  obtain ⟨k, hk, r⟩ := x; exact ⟨k, by omega, r⟩

/-- the key pattern's head up to the first try for the sign '=' -/
theorem key_head {text : Array Nat} {pos : Nat} (hpos : pos ≤ text.size) (hsz : text.size < 1000000) (h1 : 1 ≤ runL tokC text pos) :
    Goes 2 (mk cK text text.size pos 0 false 5 pos pos true #[none, none] (-1) (-1) [] 0 none none)
      (mk cK text text.size pos 0 false 26 (pos + runL tokC text pos) (pos + runL tokC text pos) true #[some pos, none] 0 (-1) [{ wait := .giveBack, pc := 7, pos := pos + runL tokC text pos, outermost := true, count := (runL tokC text pos : Nat), kept := { lastmark := 0, lastindex := -1 } }] 1 none none) := by
  have a := go_mark (code := cK) (text := text) (lim := text.size) (start := pos) (ls := 0) (ma := false) (pc := 5) (pos := pos) (handed := pos) (om := true) (marks := #[none, none]) (lm := -1) (li := -1) (frames := []) (weight := 0) (by decide) rfl (by decide)
  have b := go_repeat (code := cK) (text := text) (lim := text.size) (start := pos) (ls := 0) (ma := false) (pc := 7) (pos := pos) (handed := pos) (om := true) (marks := #[some pos, none]) (lm := 0) (li := -1) (frames := []) (weight := 0) (f := tokC) (least := 1) (most := 4294967295)
    (by decide) rfl rfl rfl (by omega) rfl hpos acc_K (by decide) (n := runL tokC text pos) rfl h1
  exact a.trans b
theorem key_try {text : Array Nat} {pos q c : Nat} {marks : Array (Option Nat)} (hm : marks.size = 2) (fr : List Sre.Frame) (wt : Nat) :
    Goes 1 (mk cK text text.size pos 0 false 26 q q true marks 0 (-1) fr wt none none) (mk cK text text.size pos 0 false 28 q q true (marks.setIfInBounds 1 (some q)) 1 1 fr wt none none) :=
  go_mark (code := cK) (text := text) (lim := text.size) (start := pos) (ls := 0) (ma := false) (pc := 26) (pos := q) (handed := q) (om := true) (marks := marks) (lm := 0) (li := -1) (frames := fr) (weight := wt) (by decide) rfl (by decide)
theorem ends_key_yes {text : Array Nat} {pos : Nat} (hpos : pos ≤ text.size) (hsz : text.size < 1000000) (h1 : 1 ≤ runL tokC text pos) (h2 : pos + runL tokC text pos < text.size) (h3 : text.getD (pos + runL tokC text pos) 0 = 61) :
    Ends 100 (forMatch cK text 1 pos text.size false false) (some (pos, pos + runL tokC text pos + 1, #[some pos, some (pos + runL tokC text pos)], 1, 1)) := by
  obtain ⟨sn, e⟩ := fm_K text pos text.size
  rw [e, if_neg (by simp; omega)]
  have a := key_head hpos hsz h1
  have b := key_try (text := text) (pos := pos) (q := pos + runL tokC text pos) (c := 0) (marks := #[some pos, none]) rfl [{ wait := .giveBack, pc := 7, pos := pos + runL tokC text pos, outermost := true, count := (runL tokC text pos : Nat), kept := { lastmark := 0, lastindex := -1 } }] 1
  have c := go_literal_yes (code := cK) (text := text) (lim := text.size) (start := pos) (ls := 0) (ma := false) (pc := 28) (pos := pos + runL tokC text pos) (handed := pos + runL tokC text pos) (om := true) (marks := #[some pos, some (pos + runL tokC text pos)]) (lm := 1) (li := 1)
    (frames := [{ wait := .giveBack, pc := 7, pos := pos + runL tokC text pos, outermost := true, count := (runL tokC text pos : Nat), kept := { lastmark := 0, lastindex := -1 } }]) (weight := 1) (c := 61) (by decide) rfl rfl h2 h3
  have d := go_success (code := cK) (text := text) (lim := text.size) (start := pos) (ls := 0) (ma := false) (pc := 30) (pos := pos + runL tokC text pos + 1) (handed := pos + runL tokC text pos) (om := true) (marks := #[some pos, some (pos + runL tokC text pos)]) (lm := 1) (li := 1)
    (frames := [{ wait := .giveBack, pc := 7, pos := pos + runL tokC text pos, outermost := true, count := (runL tokC text pos : Nat), kept := { lastmark := 0, lastindex := -1 } }]) (weight := 1) (by decide) rfl rfl
  have f := go_back (code := cK) (text := text) (lim := text.size) (start := pos) (ls := 0) (ma := false) (pc := 30) (pos := pos + runL tokC text pos + 1) (handed := pos + runL tokC text pos + 1) (om := true) (marks := #[some pos, some (pos + runL tokC text pos)]) (lm := 1) (li := 1)
    (frames := []) (weight := 1) (f := { wait := .giveBack, pc := 7, pos := pos + runL tokC text pos, outermost := true, count := (runL tokC text pos : Nat), kept := { lastmark := 0, lastindex := -1 } }) (yes := true)
    (m' := mk cK text text.size pos 0 false 7 (pos + runL tokC text pos) (pos + runL tokC text pos + 1) true #[some pos, some (pos + runL tokC text pos)] 1 1 [] 0 (some true) none) (fun sn => rfl)
  exact (Ends.yes (a.trans (b.trans (c.trans (d.trans f))))).le (by decide)

/-- the tries behind a run that no sign '=' follows: each falls -/
theorem key_backs {text : Array Nat} {pos : Nat} (n : Nat) (hn : n = runL tokC text pos) : ∀ (j : Nat), j + 1 ≤ n → ∀ (marks : Array (Option Nat)) (h : Nat), marks.size = 2 →
    (pos + (j + 1) < text.size → text.getD (pos + (j + 1)) 0 ≠ 61) →
    ∃ pc' p' h' marks' lm' li' wt', Goes (4 * j + 4) (mk cK text text.size pos 0 false 26 (pos + (j + 1)) h true marks 0 (-1) [{ wait := .giveBack, pc := 7, pos := pos + (j + 1), outermost := true, count := ((j + 1 : Nat) : Int), kept := { lastmark := 0, lastindex := -1 } }] 1 none none)
      (mk cK text text.size pos 0 false pc' p' h' true marks' lm' li' [] wt' (some false) none) := by
  intro j
  induction j with
  | zero =>
    intro hj marks h hm hne
    have b := go_mark (code := cK) (text := text) (lim := text.size) (start := pos) (ls := 0) (ma := false) (pc := 26) (pos := pos + (0 + 1)) (handed := h) (om := true) (marks := marks) (lm := 0) (li := -1) (frames := [{ wait := .giveBack, pc := 7, pos := pos + (0 + 1), outermost := true, count := ((0 + 1 : Nat) : Int), kept := { lastmark := 0, lastindex := -1 } }]) (weight := 1) (by decide) rfl (by decide)
    have c := go_literal_no (code := cK) (text := text) (lim := text.size) (start := pos) (ls := 0) (ma := false) (pc := 28) (pos := pos + (0 + 1)) (handed := h) (om := true) (marks := marks.setIfInBounds 1 (some (pos + (0 + 1)))) (lm := 1) (li := 1)
      (frames := [{ wait := .giveBack, pc := 7, pos := pos + (0 + 1), outermost := true, count := ((0 + 1 : Nat) : Int), kept := { lastmark := 0, lastindex := -1 } }]) (weight := 1) (c := 61) (by decide) rfl rfl (by
        by_cases q : pos + (0 + 1) < text.size
        · exact .inr (hne q)
        · exact .inl (by omega))
    have f := go_back (code := cK) (text := text) (lim := text.size) (start := pos) (ls := 0) (ma := false) (pc := 28) (pos := pos + (0 + 1)) (handed := h) (om := true) (marks := marks.setIfInBounds 1 (some (pos + (0 + 1)))) (lm := 1) (li := 1)
      (frames := []) (weight := 1) (f := { wait := .giveBack, pc := 7, pos := pos + (0 + 1), outermost := true, count := ((0 + 1 : Nat) : Int), kept := { lastmark := 0, lastindex := -1 } }) (yes := false)
      (m' := mk cK text text.size pos 0 false 7 (pos + (0 + 1)) h true (marks.setIfInBounds 1 (some (pos + (0 + 1)))) 0 (-1) [] 0 (some false) none) (fun sn => rfl)
    exact ⟨_, _, _, _, _, _, _, (b.trans (c.trans f)).le (by decide)⟩
  | succ j ih =>
    intro hj marks h hm hne
    have b := go_mark (code := cK) (text := text) (lim := text.size) (start := pos) (ls := 0) (ma := false) (pc := 26) (pos := pos + (j + 1 + 1)) (handed := h) (om := true) (marks := marks) (lm := 0) (li := -1) (frames := [{ wait := .giveBack, pc := 7, pos := pos + (j + 1 + 1), outermost := true, count := ((j + 1 + 1 : Nat) : Int), kept := { lastmark := 0, lastindex := -1 } }]) (weight := 1) (by decide) rfl (by decide)
    have c := go_literal_no (code := cK) (text := text) (lim := text.size) (start := pos) (ls := 0) (ma := false) (pc := 28) (pos := pos + (j + 1 + 1)) (handed := h) (om := true) (marks := marks.setIfInBounds 1 (some (pos + (j + 1 + 1)))) (lm := 1) (li := 1)
      (frames := [{ wait := .giveBack, pc := 7, pos := pos + (j + 1 + 1), outermost := true, count := ((j + 1 + 1 : Nat) : Int), kept := { lastmark := 0, lastindex := -1 } }]) (weight := 1) (c := 61) (by decide) rfl rfl (by
        by_cases q : pos + (j + 1 + 1) < text.size
        · exact .inr (hne q)
        · exact .inl (by omega))
    have f := go_back (code := cK) (text := text) (lim := text.size) (start := pos) (ls := 0) (ma := false) (pc := 28) (pos := pos + (j + 1 + 1)) (handed := h) (om := true) (marks := marks.setIfInBounds 1 (some (pos + (j + 1 + 1)))) (lm := 1) (li := 1)
      (frames := []) (weight := 1) (f := { wait := .giveBack, pc := 7, pos := pos + (j + 1 + 1), outermost := true, count := ((j + 1 + 1 : Nat) : Int), kept := { lastmark := 0, lastindex := -1 } }) (yes := false)
      (m' := mk cK text text.size pos 0 false 26 (pos + (j + 1)) (pos + (j + 1)) true (marks.setIfInBounds 1 (some (pos + (j + 1 + 1)))) 0 (-1) [{ wait := .giveBack, pc := 7, pos := pos + (j + 1), outermost := true, count := ((j + 1 : Nat) : Int), kept := { lastmark := 0, lastindex := -1 } }] 1 none none) (fun sn => by
        unfold M.resume
        dsimp only
        rw [if_neg Bool.false_ne_true]
        have hc : ¬ ((((j + 1 + 1 : Nat) : Int) - 1) < (((1 : Nat) : Int))) := by omega
        show (if (((j + 1 + 1 : Nat) : Int) - 1) < ((1 : Nat) : Int) then _ else _) = _
        rw [if_neg hc]
        have e1 : (((j + 1 + 1 : Nat) : Int) - 1) = ((j + 1 : Nat) : Int) := by omega
        have e2 : pos + (j + 1 + 1) - 1 = pos + (j + 1) := by omega
        unfold M.afterRun
        rw [attempt_ok (by show 0 + 1 + 0 ≤ _; decide)]
        dsimp only
        rw [e1, e2]
        rfl)
    obtain ⟨pc', p', h', marks', lm', li', wt', g⟩ := ih (by omega) (marks.setIfInBounds 1 (some (pos + (j + 1 + 1)))) (pos + (j + 1)) (by simpa using hm) (fun _ => by
      have ht := runL_at (f := tokC) (text := text) (p := pos) (k := j + 1) (by omega)
      intro q
      rw [q] at ht
      exact absurd ht (by decide))
    exact ⟨pc', p', h', marks', lm', li', wt', (b.trans (c.trans (f.trans g))).le (by omega)⟩
theorem ends_key_no {text : Array Nat} {pos : Nat} (hpos : pos ≤ text.size) (hsz : text.size < 1000000) (h : runL tokC text pos = 0 ∨ (pos + runL tokC text pos < text.size → text.getD (pos + runL tokC text pos) 0 ≠ 61)) :
    Ends (4 * text.size + 100) (forMatch cK text 1 pos text.size false false) none := by
  obtain ⟨sn, e⟩ := fm_K text pos text.size
  rw [e]
  by_cases h2 : text.size - pos < 2
  · rw [if_pos (by simp; omega)]
    exact (Ends.no (Goes.refl _)).le (by omega)
  · rw [if_neg (by simp; omega)]
    by_cases h1 : 1 ≤ runL tokC text pos
    · have a := key_head hpos hsz h1
      obtain ⟨j, hj⟩ : ∃ j, runL tokC text pos = j + 1 := ⟨runL tokC text pos - 1, by omega⟩
      rw [hj] at a
      obtain ⟨pc', p', h', marks', lm', li', wt', g⟩ := key_backs (text := text) (pos := pos) (j + 1) hj.symm j (Nat.le_refl _) #[some pos, none] (pos + (j + 1)) rfl (by
        rw [← hj]
        exact h.resolve_left (by omega))
      have := runL_le tokC text pos
      exact (Ends.no (a.trans g)).le (by omega)
    · have a := go_mark (code := cK) (text := text) (lim := text.size) (start := pos) (ls := 0) (ma := false) (pc := 5) (pos := pos) (handed := pos) (om := true) (marks := #[none, none]) (lm := -1) (li := -1) (frames := []) (weight := 0) (by decide) rfl (by decide)
      have b := go_repeat_no (code := cK) (text := text) (lim := text.size) (start := pos) (ls := 0) (ma := false) (pc := 7) (pos := pos) (handed := pos) (om := true) (marks := #[some pos, none]) (lm := 0) (li := -1) (frames := []) (weight := 0) (f := tokC) (least := 1) (most := 4294967295)
        (by decide) rfl rfl rfl (by omega) rfl hpos acc_K (by show runL tokC text pos < 1; omega)
      exact (Ends.no (a.trans b)).le (by omega)
end RE
end Mine
end
section
open PySem PySem.Sre
namespace Mine
namespace RE
theorem ends_tok_yes {text : Array Nat} {pos : Nat} (hpos : pos ≤ text.size) (hsz : text.size < 1000000) (h1 : 1 ≤ runL tokC text pos) :
    Ends 100 (forMatch cT text 0 pos text.size false false) (some (pos, pos + runL tokC text pos, #[], -1, -1)) := by
  obtain ⟨sn, e⟩ := fm_T text pos text.size
  have hl := runL_le tokC text pos
  rw [e, if_neg (by simp; omega)]
  have b := go_repeat (code := cT) (text := text) (lim := text.size) (start := pos) (ls := 0) (ma := false) (pc := 5) (pos := pos) (handed := pos) (om := true) (marks := #[]) (lm := -1) (li := -1) (frames := []) (weight := 0) (f := tokC) (least := 1) (most := 4294967295)
    (by decide) rfl rfl rfl (by omega) rfl hpos acc_T (by decide) (n := runL tokC text pos) rfl h1
  have d := go_success (code := cT) (text := text) (lim := text.size) (start := pos) (ls := 0) (ma := false) (pc := 24) (pos := pos + runL tokC text pos) (handed := pos + runL tokC text pos) (om := true) (marks := #[]) (lm := -1) (li := -1)
    (frames := [{ wait := .giveBack, pc := 5, pos := pos + runL tokC text pos, outermost := true, count := (runL tokC text pos : Nat), kept := { lastmark := -1, lastindex := -1 } }]) (weight := 1) (by decide) rfl rfl
  have f := go_back (code := cT) (text := text) (lim := text.size) (start := pos) (ls := 0) (ma := false) (pc := 24) (pos := pos + runL tokC text pos) (handed := pos + runL tokC text pos) (om := true) (marks := #[]) (lm := -1) (li := -1)
    (frames := []) (weight := 1) (f := { wait := .giveBack, pc := 5, pos := pos + runL tokC text pos, outermost := true, count := (runL tokC text pos : Nat), kept := { lastmark := -1, lastindex := -1 } }) (yes := true)
    (m' := mk cT text text.size pos 0 false 5 (pos + runL tokC text pos) (pos + runL tokC text pos) true #[] (-1) (-1) [] 0 (some true) none) (fun sn => rfl)
  exact (Ends.yes (b.trans (d.trans f))).le (by decide)
theorem ends_tok_no {text : Array Nat} {pos : Nat} (hpos : pos ≤ text.size) (hsz : text.size < 1000000) (h : runL tokC text pos = 0) :
    Ends 100 (forMatch cT text 0 pos text.size false false) none := by
  obtain ⟨sn, e⟩ := fm_T text pos text.size
  rw [e]
  by_cases h2 : text.size - pos < 1
  · rw [if_pos (by simp; omega)]
    exact (Ends.no (Goes.refl _)).le (by omega)
  · rw [if_neg (by simp; omega)]
    have b := go_repeat_no (code := cT) (text := text) (lim := text.size) (start := pos) (ls := 0) (ma := false) (pc := 5) (pos := pos) (handed := pos) (om := true) (marks := #[]) (lm := -1) (li := -1) (frames := []) (weight := 0) (f := tokC) (least := 1) (most := 4294967295)
        (by decide) rfl rfl rfl (by omega) rfl hpos acc_T (by show runL tokC text pos < 1; omega)
    exact (Ends.no b).le (by omega)

theorem fs_U (text : Array Nat) (pos lim : Nat) (ma : Bool) : ∃ sn, forSearch cU text 1 pos lim ma = (if (decide (pos > lim) || decide (lim - pos < 2)) = true then { mk cU text lim pos 0 ma 9 pos pos true #[none, none] (-1) (-1) [] 0 (some false) none with seen := sn }
    else { mk cU text lim pos lim ma 9 pos pos true #[none, none] (-1) (-1) [{ wait := .nextStart, pc := 9, pos := pos, outermost := true }] 1 none none with seen := sn }) := ⟨_, rfl⟩
theorem fs_D (text : Array Nat) (pos lim : Nat) : ∃ sn, forSearch cD text 0 pos lim false = (if (decide (pos > lim) || decide (lim - pos < 1)) = true then { mk cD text lim pos 0 false 9 pos pos true #[] (-1) (-1) [] 0 (some false) none with seen := sn }
    else { mk cD text lim pos lim false 9 pos pos true #[] (-1) (-1) [{ wait := .nextStart, pc := 9, pos := pos, outermost := true }] 1 none none with seen := sn }) := ⟨_, rfl⟩

/-- where a backslash with a sign behind it stands first -/
def searchU : List Nat → Option Nat
  | [] => none
  | c :: r => if (decide (c = 92) && (match r with | d :: _ => decide (d ≠ 10) | [] => false)) = true then some 0 else (searchU r).map (· + 1)
theorem drop_cons {text : Array Nat} {s : Nat} (h : s < text.size) : text.toList.drop s = text.getD s 0 :: text.toList.drop (s + 1) := by
  have hlt : s < text.toList.length := by simpa using h
  rw [List.drop_eq_getElem_cons hlt]
  congr 1
  simp [Array.getD, h]
theorem drop_end {text : Array Nat} {s : Nat} (h : text.size ≤ s) : text.toList.drop s = [] := List.drop_eq_nil_of_le (by simpa using h)
theorem resume_next {m : M} {f : Sre.Frame} (hw : f.wait = .nextStart) (h : f.pos < m.lastStart) : m.resume f false = ({ m with mustAdvance := false } : M).attemptFrom (f.pos + 1) false := by
  obtain ⟨w, pc, pos, om, c, k, l, b⟩ := f
  dsimp only at hw h
  subst hw
  unfold M.resume
  dsimp only
  rw [if_neg Bool.false_ne_true, if_pos h]
theorem resume_last {m : M} {f : Sre.Frame} (hw : f.wait = .nextStart) (h : ¬ f.pos < m.lastStart) : m.resume f false = m.say false := by
  obtain ⟨w, pc, pos, om, c, k, l, b⟩ := f
  dsimp only at hw h
  subst hw
  unfold M.resume
  dsimp only
  rw [if_neg Bool.false_ne_true, if_neg h]
theorem resume_found {m : M} {f : Sre.Frame} (hw : f.wait = .nextStart) : m.resume f true = m.say true := by
  obtain ⟨w, pc, pos, om, c, k, l, b⟩ := f
  dsimp only at hw
  subst hw
  unfold M.resume
  dsimp only
  rw [if_pos rfl]
theorem from_at {m : M} {s : Nat} {first : Bool} (h : (m.code.getD 2 0 == 4) = false) : m.attemptFrom s first = m.attemptAt s first := by
  have hh : m.hasFirstSet = false := by
    unfold M.hasFirstSet
    rw [h, Bool.and_false]
  unfold M.attemptFrom
  rw [hh]; rfl
theorem at_next {m : M} {s : Nat} {first : Bool} (h : m.weight ≤ 1000) :
    m.attemptAt s first = { m with start := s, pos := s, handed := s, lastmark := -1, lastindex := -1, frames := { wait := .nextStart, pc := m.pc, pos := s, outermost := first } :: m.frames, weight := m.weight + 1 + 0, outermost := first } := by
  unfold M.attemptAt
  rw [attempt_ok (by show m.weight + 1 + 0 ≤ _; omega)]
  rfl
theorem next_start {code text : Array Nat} {lim start : Nat} {s h : Nat} {om om' : Bool} {marks : Array (Option Nat)} {lm li : Int} {pc p : Nat} {g : Nat} (h4 : (code.getD 2 0 == 4) = false) {ma : Bool} (hs : s < lim) :
    Goes 1 (mk code text lim start lim ma pc p h om' marks lm li [{ wait := .nextStart, pc := g, pos := s, outermost := om }] 1 (some false) none)
      (mk code text lim (s + 1) lim false g (s + 1) (s + 1) false marks (-1) (-1) [{ wait := .nextStart, pc := g, pos := s + 1, outermost := false }] 1 none none) := by
  refine go_back (f := { wait := .nextStart, pc := g, pos := s, outermost := om }) (fun sn => ?_)
  rw [resume_next rfl (show s < lim from hs), from_at h4, at_next (by show 1 - (1 + 0) ≤ 1000; decide)]
  rfl
theorem last_start {code text : Array Nat} {lim start : Nat} {s h : Nat} {om om' : Bool} {marks : Array (Option Nat)} {lm li : Int} {pc p : Nat} {g : Nat} {ma : Bool} (hs : ¬ s < lim) :
    Goes 1 (mk code text lim start lim ma pc p h om' marks lm li [{ wait := .nextStart, pc := g, pos := s, outermost := om }] 1 (some false) none)
      (mk code text lim start lim ma g s h om marks lm li [] 0 (some false) none) := by
  refine go_back (f := { wait := .nextStart, pc := g, pos := s, outermost := om }) (fun sn => ?_)
  rw [resume_last rfl (show ¬ s < lim from hs)]
  rfl
theorem found_start {code text : Array Nat} {lim start : Nat} {s h : Nat} {om om' : Bool} {marks : Array (Option Nat)} {lm li : Int} {pc p : Nat} {g : Nat} {ma : Bool} :
    Goes 1 (mk code text lim start lim ma pc p h om' marks lm li [{ wait := .nextStart, pc := g, pos := s, outermost := om }] 1 (some true) none)
      (mk code text lim start lim ma g s h om marks lm li [] 0 (some true) none) := by
  refine go_back (f := { wait := .nextStart, pc := g, pos := s, outermost := om }) (fun sn => ?_)
  rw [resume_found rfl]
  rfl

abbrev frN (s : Nat) (om : Bool) : List Sre.Frame := [{ wait := .nextStart, pc := 9, pos := s, outermost := om }]
/-- from a start on, the backslash pattern: found, or every start falls -/
theorem loop_U {text : Array Nat} (hsz : text.size < 1000000) : ∀ (k s : Nat), s + k = text.size → ∀ (om ma : Bool) (marks : Array (Option Nat)) (sn : Seen), marks.size = 2 →
    Ends (8 * k + 20) { mk cU text text.size s text.size ma 9 s s om marks (-1) (-1) (frN s om) 1 none none with seen := sn }
      (match searchU (text.toList.drop s) with | some o => some (s + o, s + o + 2, #[some (s + o + 1), some (s + o + 2)], 1, 1) | none => none) := by
  intro k
  induction k with
  | zero =>
    intro s hs om ma marks sn hm
    rw [drop_end (by omega)]
    have a := go_literal_no (code := cU) (text := text) (lim := text.size) (start := s) (ls := text.size) (ma := ma) (pc := 9) (pos := s) (handed := s) (om := om) (marks := marks) (lm := -1) (li := -1) (frames := frN s om) (weight := 1) (c := 92) (by decide) rfl rfl (.inl (by omega))
    have b := last_start (code := cU) (text := text) (lim := text.size) (start := s) (s := s) (h := s) (om := om) (om' := om) (marks := marks) (lm := -1) (li := -1) (pc := 9) (p := s) (g := 9) (ma := ma) (by omega)
    exact (Ends.no (a.trans b)).le (by omega)
  | succ k ih =>
    intro s hs om ma marks sn hm
    have hlt : s < text.size := by omega
    rw [drop_cons hlt]
    have next : ∀ (B : Nat) (pc p h : Nat) (om' : Bool) (marks' : Array (Option Nat)) (lm li : Int), B ≤ 6 → marks'.size = 2 → Goes B (mk cU text text.size s text.size ma 9 s s om marks (-1) (-1) (frN s om) 1 none none) (mk cU text text.size s text.size ma pc p h om' marks' lm li (frN s om) 1 (some false) none) →
        Ends (8 * (k + 1) + 20) { mk cU text text.size s text.size ma 9 s s om marks (-1) (-1) (frN s om) 1 none none with seen := sn }
          (match (searchU (text.toList.drop (s + 1))).map (· + 1) with | some o => some (s + o, s + o + 2, #[some (s + o + 1), some (s + o + 2)], 1, 1) | none => none) := by
      intro B pc p h om' marks' lm li hB hm' g
      have g2 := g.trans (next_start (code := cU) (text := text) (lim := text.size) (start := s) (s := s) (h := h) (om := om) (om' := om') (marks := marks') (lm := lm) (li := li) (pc := pc) (p := p) (g := 9) rfl (ma := ma) hlt)
      obtain ⟨k1, hk1, sn1, e1⟩ := g2 sn
      obtain ⟨k2, hk2, r⟩ := ih (s + 1) (by omega) false false marks' sn1 hm'
      refine ⟨k1 + k2, by omega, ?_⟩
      rw [runFor_add, e1]
      cases hq : searchU (text.toList.drop (s + 1)) with
      | none => rw [hq] at r; exact r
      | some o =>
        rw [hq] at r
        dsimp only [Option.map] at r ⊢
        have e2 : s + 1 + o = s + (o + 1) := by omega
        rw [e2] at r
        exact r
    by_cases hc : text.getD s 0 = 92
    · have a := go_literal_yes (code := cU) (text := text) (lim := text.size) (start := s) (ls := text.size) (ma := ma) (pc := 9) (pos := s) (handed := s) (om := om) (marks := marks) (lm := -1) (li := -1) (frames := frN s om) (weight := 1) (c := 92) (by decide) rfl rfl hlt hc
      have b := go_mark (code := cU) (text := text) (lim := text.size) (start := s) (ls := text.size) (ma := ma) (pc := 11) (pos := s + 1) (handed := s) (om := om) (marks := marks) (lm := -1) (li := -1) (frames := frN s om) (weight := 1) (by decide) rfl (by decide)
      by_cases h2 : s + 1 < text.size ∧ text.getD (s + 1) 0 ≠ 10
      · have hs2 : searchU (text.getD s 0 :: text.toList.drop (s + 1)) = some 0 := by
          rw [drop_cons h2.1]
          unfold searchU
          rw [if_pos (by simp only [hc, decide_true, Bool.true_and, decide_eq_true_eq]; exact h2.2)]
        rw [hs2]
        have c := go_any_yes (code := cU) (text := text) (lim := text.size) (start := s) (ls := text.size) (ma := ma) (pc := 13) (pos := s + 1) (handed := s) (om := om) (marks := marks.setIfInBounds 0 (some (s + 1))) (lm := 0) (li := -1) (frames := frN s om) (weight := 1) (by decide) rfl h2.1 h2.2
        have d := go_mark (code := cU) (text := text) (lim := text.size) (start := s) (ls := text.size) (ma := ma) (pc := 14) (pos := s + 1 + 1) (handed := s) (om := om) (marks := marks.setIfInBounds 0 (some (s + 1))) (lm := 0) (li := -1) (frames := frN s om) (weight := 1) (by decide) rfl (by decide)
        have f := go_success (code := cU) (text := text) (lim := text.size) (start := s) (ls := text.size) (ma := ma) (pc := 16) (pos := s + 1 + 1) (handed := s) (om := om) (marks := (marks.setIfInBounds 0 (some (s + 1))).setIfInBounds 1 (some (s + 1 + 1))) (lm := 1) (li := 1) (frames := frN s om) (weight := 1) (by decide) rfl (by
          have : (s + 1 + 1 == s) = false := beq_eq_false_iff_ne.mpr (by omega)
          rw [this, Bool.and_false, Bool.and_false])
        have g := found_start (code := cU) (text := text) (lim := text.size) (start := s) (s := s) (h := s + 1 + 1) (om := om) (om' := om) (marks := (marks.setIfInBounds 0 (some (s + 1))).setIfInBounds 1 (some (s + 1 + 1))) (lm := 1) (li := 1) (pc := 16) (p := s + 1 + 1) (g := 9) (ma := ma)
        have r := (Ends.yes (sn := sn) (a.trans (b.trans (c.trans (d.trans (f.trans g)))))).le (b := 8 * (k + 1) + 20) (by omega)
        have em : (marks.setIfInBounds 0 (some (s + 1))).setIfInBounds 1 (some (s + 1 + 1)) = #[some (s + 1), some (s + 2)] := by
          obtain ⟨l⟩ := marks
          match l, hm with
          | [x, y], _ => rfl
        rw [em] at r
        exact r
      · have hs2 : searchU (text.getD s 0 :: text.toList.drop (s + 1)) = (searchU (text.toList.drop (s + 1))).map (· + 1) := by
          conv => lhs; unfold searchU
          rw [if_neg ?_]
          by_cases h3 : s + 1 < text.size
          · rw [drop_cons h3]
            simp only [Bool.and_eq_true, decide_eq_true_eq]
            intro q
            exact h2 ⟨h3, q.2⟩
          · rw [drop_end (by omega)]
            simp
        rw [hs2]
        have c := go_any_no (code := cU) (text := text) (lim := text.size) (start := s) (ls := text.size) (ma := ma) (pc := 13) (pos := s + 1) (handed := s) (om := om) (marks := marks.setIfInBounds 0 (some (s + 1))) (lm := 0) (li := -1) (frames := frN s om) (weight := 1) (by decide) rfl (by
          by_cases h3 : s + 1 < text.size
          · right
            by_cases h4 : text.getD (s + 1) 0 = 10
            · exact h4
            · exact absurd ⟨h3, h4⟩ h2
          · left; omega)
        exact next 3 _ _ _ _ _ _ _ (by decide) (by simpa using hm) (a.trans (b.trans c))
    · have hs2 : searchU (text.getD s 0 :: text.toList.drop (s + 1)) = (searchU (text.toList.drop (s + 1))).map (· + 1) := by
        conv => lhs; unfold searchU
        rw [if_neg ?_]
        simp only [Bool.and_eq_true, decide_eq_true_eq]
        intro q
        exact hc q.1
      rw [hs2]
      have a := go_literal_no (code := cU) (text := text) (lim := text.size) (start := s) (ls := text.size) (ma := ma) (pc := 9) (pos := s) (handed := s) (om := om) (marks := marks) (lm := -1) (li := -1) (frames := frN s om) (weight := 1) (c := 92) (by decide) rfl rfl (.inr hc)
      exact next 1 _ _ _ _ _ _ _ (by decide) hm a

theorem ends_U {text : Array Nat} {pos : Nat} (hpos : pos ≤ text.size) (hsz : text.size < 1000000) (ma : Bool) :
    Ends (8 * text.size + 40) (forSearch cU text 1 pos text.size ma)
      (match searchU (text.toList.drop pos) with | some o => some (pos + o, pos + o + 2, #[some (pos + o + 1), some (pos + o + 2)], 1, 1) | none => none) := by
  obtain ⟨sn, e⟩ := fs_U text pos text.size ma
  rw [e]
  by_cases h : text.size - pos < 2
  · rw [if_pos (by simp; omega)]
    have hs : searchU (text.toList.drop pos) = none := by
      by_cases h1 : pos < text.size
      · rw [drop_cons h1, drop_end (by omega)]
        unfold searchU
        rw [if_neg (by simp)]
        rfl
      · rw [drop_end (by omega)]; rfl
    rw [hs]
    exact (Ends.no (Goes.refl _)).le (by omega)
  · rw [if_neg (by simp; omega)]
    exact (loop_U hsz (text.size - pos) pos (by omega) true ma #[none, none] sn rfl).le (by omega)

/-- where the first semicolon stands -/
def searchD : List Nat → Option Nat
  | [] => none
  | c :: r => if c = 59 then some 0 else (searchD r).map (· + 1)
theorem loop_D {text : Array Nat} (hsz : text.size < 1000000) : ∀ (k s : Nat), s + k = text.size → ∀ (om : Bool) (sn : Seen),
    Ends (8 * k + 20) { mk cD text text.size s text.size false 9 s s om #[] (-1) (-1) (frN s om) 1 none none with seen := sn }
      (match searchD (text.toList.drop s) with | some o => some (s + o, s + o + 1 + runL blankC text (s + o + 1), #[], -1, -1) | none => none) := by
  intro k
  induction k with
  | zero =>
    intro s hs om sn
    rw [drop_end (by omega)]
    have a := go_literal_no (code := cD) (text := text) (lim := text.size) (start := s) (ls := text.size) (ma := false) (pc := 9) (pos := s) (handed := s) (om := om) (marks := #[]) (lm := -1) (li := -1) (frames := frN s om) (weight := 1) (c := 59) (by decide) rfl rfl (.inl (by omega))
    have b := last_start (code := cD) (text := text) (lim := text.size) (start := s) (s := s) (h := s) (om := om) (om' := om) (marks := #[]) (lm := -1) (li := -1) (pc := 9) (p := s) (g := 9) (ma := false) (by omega)
    exact (Ends.no (a.trans b)).le (by omega)
  | succ k ih =>
    intro s hs om sn
    have hlt : s < text.size := by omega
    rw [drop_cons hlt]
    by_cases hc : text.getD s 0 = 59
    · have hs2 : searchD (text.getD s 0 :: text.toList.drop (s + 1)) = some 0 := by unfold searchD; rw [if_pos hc]
      rw [hs2]
      have a := go_literal_yes (code := cD) (text := text) (lim := text.size) (start := s) (ls := text.size) (ma := false) (pc := 9) (pos := s) (handed := s) (om := om) (marks := #[]) (lm := -1) (li := -1) (frames := frN s om) (weight := 1) (c := 59) (by decide) rfl rfl hlt hc
      have b := go_repeat (code := cD) (text := text) (lim := text.size) (start := s) (ls := text.size) (ma := false) (pc := 11) (pos := s + 1) (handed := s) (om := om) (marks := #[]) (lm := -1) (li := -1) (frames := frN s om) (weight := 1) (f := blankC) (least := 0) (most := 4294967295)
        (by decide) rfl rfl rfl (by omega) rfl (by omega) acc_D (by decide) (n := runL blankC text (s + 1)) rfl (Nat.zero_le _)
      have c := go_success (code := cD) (text := text) (lim := text.size) (start := s) (ls := text.size) (ma := false) (pc := 23) (pos := s + 1 + runL blankC text (s + 1)) (handed := s + 1 + runL blankC text (s + 1)) (om := om) (marks := #[]) (lm := -1) (li := -1)
        (frames := { wait := .giveBack, pc := 11, pos := s + 1 + runL blankC text (s + 1), outermost := om, count := (runL blankC text (s + 1) : Nat), kept := { lastmark := -1, lastindex := -1 } } :: frN s om) (weight := 2) (by decide) rfl (by rw [Bool.false_and, Bool.and_false])
      have d := go_back (code := cD) (text := text) (lim := text.size) (start := s) (ls := text.size) (ma := false) (pc := 23) (pos := s + 1 + runL blankC text (s + 1)) (handed := s + 1 + runL blankC text (s + 1)) (om := om) (marks := #[]) (lm := -1) (li := -1)
        (frames := frN s om) (weight := 2) (f := { wait := .giveBack, pc := 11, pos := s + 1 + runL blankC text (s + 1), outermost := om, count := (runL blankC text (s + 1) : Nat), kept := { lastmark := -1, lastindex := -1 } }) (yes := true)
        (m' := mk cD text text.size s text.size false 11 (s + 1 + runL blankC text (s + 1)) (s + 1 + runL blankC text (s + 1)) om #[] (-1) (-1) (frN s om) 1 (some true) none) (fun sn => rfl)
      have g := found_start (code := cD) (text := text) (lim := text.size) (start := s) (s := s) (h := s + 1 + runL blankC text (s + 1)) (om := om) (om' := om) (marks := #[]) (lm := -1) (li := -1) (pc := 11) (p := s + 1 + runL blankC text (s + 1)) (g := 9) (ma := false)
      exact (Ends.yes (sn := sn) (a.trans (b.trans (c.trans (d.trans g))))).le (b := 8 * (k + 1) + 20) (by omega)
    · have hs2 : searchD (text.getD s 0 :: text.toList.drop (s + 1)) = (searchD (text.toList.drop (s + 1))).map (· + 1) := by
        conv => lhs; unfold searchD
        rw [if_neg hc]
      rw [hs2]
      have a := go_literal_no (code := cD) (text := text) (lim := text.size) (start := s) (ls := text.size) (ma := false) (pc := 9) (pos := s) (handed := s) (om := om) (marks := #[]) (lm := -1) (li := -1) (frames := frN s om) (weight := 1) (c := 59) (by decide) rfl rfl (.inr hc)
      have g2 := a.trans (next_start (code := cD) (text := text) (lim := text.size) (start := s) (s := s) (h := s) (om := om) (om' := om) (marks := #[]) (lm := -1) (li := -1) (pc := 9) (p := s) (g := 9) rfl (ma := false) hlt)
      obtain ⟨k1, hk1, sn1, e1⟩ := g2 sn
      obtain ⟨k2, hk2, r⟩ := ih (s + 1) (by omega) false sn1
      refine ⟨k1 + k2, by omega, ?_⟩
      rw [runFor_add, e1]
      cases hq : searchD (text.toList.drop (s + 1)) with
      | none => rw [hq] at r; exact r
      | some o =>
        rw [hq] at r
        dsimp only [Option.map] at r ⊢
        have e2 : s + 1 + o = s + (o + 1) := by omega
        rw [e2] at r
        exact r
theorem ends_D {text : Array Nat} {pos : Nat} (hpos : pos ≤ text.size) (hsz : text.size < 1000000) :
    Ends (8 * text.size + 40) (forSearch cD text 0 pos text.size false)
      (match searchD (text.toList.drop pos) with | some o => some (pos + o, pos + o + 1 + runL blankC text (pos + o + 1), #[], -1, -1) | none => none) := by
  obtain ⟨sn, e⟩ := fs_D text pos text.size
  rw [e]
  by_cases h : text.size - pos < 1
  · rw [if_pos (by simp; omega), drop_end (by omega)]
    exact (Ends.no (Goes.refl _)).le (by omega)
  · rw [if_neg (by simp; omega)]
    exact (loop_D hsz (text.size - pos) pos (by omega) true sn).le (by omega)

/-- the mark pattern at a key of ours: nothing but the end -/
def markAt (t : Array Nat) : Bool :=
  let m := (forSearch cM t 2 0 4 false).runFor 200
  (match m.outcome with | some .matched => true | _ => false) && m.start == 4 && m.handed == 4 && m.lastmark == -1
theorem mark_key : ∀ k : Fin 4, markAt #[107, 101, 121, 48 + k.val] = true := by decide +kernel
theorem mark_of {m : M} (h : ((match m.outcome with | some .matched => true | _ => false) && m.start == 4 && m.handed == 4 && m.lastmark == -1) = true) : m.outcome = some .matched ∧ m.start = 4 ∧ m.handed = 4 ∧ m.lastmark = -1 := by
  simp only [Bool.and_eq_true, beq_iff_eq] at h
  obtain ⟨⟨⟨h1, h2⟩, h3⟩, h4⟩ := h
  refine ⟨?_, h2, h3, h4⟩
  split at h1
  · assumption
  · cases h1
theorem ends_M {t : Array Nat} (h : markAt t = true) (hsz : t.size = 4) : ∃ k, k ≤ 200 ∧ ((forSearch cM t 2 0 t.size false).runFor k).outcome = some .matched ∧ ((forSearch cM t 2 0 t.size false).runFor k).start = 4 ∧ ((forSearch cM t 2 0 t.size false).runFor k).handed = 4 ∧ ((forSearch cM t 2 0 t.size false).runFor k).lastmark = -1 := by
  rw [hsz]
  exact ⟨200, Nat.le_refl _, mark_of h⟩
end RE
end Mine
end
section
open PySem PySem.W PyProof.Rows PySem.Calls PySem.Spec PySem.Builtin.Re
namespace Mine
namespace RE
open PySem.Sre
section
variable {M₀ : Model} {A : Around} {E : Value → Shared → Prop} {s : Shared}
theorem wp_drive {Q : Sre.M → Shared → Prop} : ∀ (k n : Nat) (m : Sre.M), n ≤ 4 * k → (m.runFor n).outcome.isSome = true → Q (m.runFor n) s → (k = 0 → False) → wpAny M₀ A (reDrive k m) Q E s
  | 0, n, m, _, _, _, h0 => (h0 rfl).elim
  | k + 1, n, m, hn, ho, hq, _ => by
    show wpAny M₀ A (if (m.runFor reTurnSteps).outcome.isSome = true then pure (m.runFor reTurnSteps) else do rule "sre.turn"; reDrive k (m.runFor reTurnSteps)) Q E s
    by_cases h : (m.runFor reTurnSteps).outcome.isSome = true
    · rw [if_pos h]
      refine wpAny_pure ?_
      rw [runFor_end h ho]; exact hq
    · rw [if_neg h]
      refine wpAny_bind (wpAny_rule ?_)
      have h4 : 4 < n := by
        rcases Nat.lt_or_ge 4 n with q | q
        · exact q
        · exfalso
          obtain ⟨c, hc⟩ := Nat.exists_eq_add_of_le q
          have : (m.runFor reTurnSteps) = (m.runFor n).runFor c := by
            show m.runFor 4 = _
            rw [hc, runFor_add]
          rw [this, runFor_done ho] at h
          exact h ho
      have e : m.runFor n = (m.runFor reTurnSteps).runFor (n - 4) := by
        show m.runFor n = (m.runFor 4).runFor (n - 4)
        rw [← runFor_add]; congr 1; omega
      rw [e] at ho hq
      exact wp_drive k (n - 4) _ (by omega) ho hq (by intro q; omega)
theorem wp_seen {l : List Nat} {c : Nat → Bool} {t : Nat → String} {Q : PUnit → Shared → Prop} (h : Q PUnit.unit s) :
    wpAny M₀ A (forIn l PUnit.unit fun i (r : PUnit) => (if c i = true then (rule (t i) >>= fun _ => pure (ForInStep.yield PUnit.unit)) else pure (ForInStep.yield PUnit.unit) : Sem (ForInStep PUnit))) Q E s := by
  induction l with
  | nil => exact wpAny_pure h
  | cons a r ih =>
    rw [List.forIn_cons]
    refine wpAny_bind ?_
    by_cases hc : c a = true
    · rw [if_pos hc]
      exact wpAny_bind (wpAny_rule (wpAny_pure ih))
    · rw [if_neg hc]
      exact wpAny_pure ih
theorem wp_end {m : Sre.M} {n : Nat} {Q : Option Sre.M → Shared → Prop} (hn : n ≤ 100000000) (ho : (m.runFor n).outcome = some .matched ∧ Q (some (m.runFor n)) s ∨ (m.runFor n).outcome = some .failed ∧ Q none s) :
    wpAny M₀ A (reRunToEnd m) Q E s := by
  unfold reRunToEnd
  refine wpAny_bind (wp_drive (2 ^ 64) n m (by omega) ?_ ?_ (by decide))
  · rcases ho with h | h <;> rw [h.1] <;> rfl
  · refine wpAny_bind (wp_seen ?_)
    rcases ho with h | h
    · rw [h.1]; exact wpAny_pure h.2
    · rw [h.1]; exact wpAny_pure h.2
end

theorem named1 (id f : String) (a : Value) : reNamed id f ["string", "pos", "endpos"] 1 [a] [] = pure [some a, none, none] := rfl
theorem named2 (id f : String) (a b : Value) : reNamed id f ["string", "pos", "endpos"] 1 [a, b] [] = pure [some a, some b, none] := rfl
theorem namedS (id f : String) (a b : Value) : reNamed id f ["repl", "string", "count"] 2 [a, b] [] = pure [some a, some b, none] := rfl

/-- a compiled pattern over strs, at P -/
structure PatAt (h : Heap) (P : Addr) (code : Array Nat) (groups : Nat) : Prop where
  is : ∃ po pat flags T to n, h.get? P = some po ∧ po.cls = .type "re.Pattern" ∧ po.dict = none ∧ po.data = .fields #[pat, flags, .int groups 0, .none, .none, .ref T, .int 0 0] ∧ h.get? T = some to ∧ to.data = .seq (code.map fun (n : Nat) => Value.int (n : Int) 0) n
theorem PatAt.keeps {h h' : Heap} {P : Addr} {code : Array Nat} {groups : Nat} (x : PatAt h P code groups) (k : ∀ b o, h.get? b = some o → h'.get? b = some o) : PatAt h' P code groups :=
  let ⟨po, pat, flags, T, to, n, a, b, c, d, e, f⟩ := x.is; ⟨po, pat, flags, T, to, n, k _ _ a, b, c, d, k _ _ e, f⟩
theorem code_back (code : Array Nat) : ((code.map fun (n : Nat) => Value.int (n : Int) 0).map reRawOf).map (·.toNat) = code := by
  rw [Array.map_map, Array.map_map]
  conv => rhs; rw [← Array.map_id code]
  congr 1
section
variable {prog : Program} {w : World} {A : Around} {E : Value → Shared → Prop} {s : Shared} {P : Addr} {code : Array Nat} {groups : Nat} {x : Str} {t : Tok}
theorem wp_rawItems {M₀ : Model} {A : Around} {E : Value → Shared → Prop} {s : Shared} {T : Addr} {o : Obj} {xs : Array Value} {n : Nat} {Q : Array Int → Shared → Prop} (ho : s.heap.get? T = some o) (hd : o.data = .seq xs n) (h : Q (xs.map reRawOf) s) :
    wpAny M₀ A (reRawItems (.ref T)) Q E s := by
  unfold reRawItems seqItems?
  refine wpAny_bind (wpAny_bind (wpAny_load ho ?_))
  rw [hd]
  exact wpAny_pure (wpAny_pure h)
theorem wp_fields {M₀ : Model} {A : Around} {E : Value → Shared → Prop} {s : Shared} {T : Addr} {o : Obj} {vs : Array Value} {Q : Array Value → Shared → Prop} (ho : s.heap.get? T = some o) (hd : o.data = .fields vs) (h : Q vs s) :
    wpAny M₀ A (fieldsOf (.ref T)) Q E s := by
  unfold fieldsOf
  refine wpAny_bind (wpAny_load ho ?_)
  rw [hd]
  exact wpAny_pure h
theorem wp_target1 {id f : String} {Q : ReTarget → Shared → Prop} (H : PatAt s.heap P code groups) (hx : x.cps.size < 2 ^ 62)
    (h : Q { pattern := .ref P, string := .str x t, code := code, text := x.cps, kind := 0, groups := groups, pos := 0, lim := x.cps.size } s) :
    wpAny (model prog w) A (reTarget id f ⟨[.ref P, .str x t], []⟩) Q E s := by
  obtain ⟨po, pat, flags, T, to, n, e1, e2, e3, e4, e5, e6⟩ := H.is
  unfold reTarget
  dsimp only
  rw [named1]
  refine wpAny_bind (wpAny_pure ?_)
  dsimp only
  refine wpAny_bind (wpAny_pure (wpAny_bind (wpAny_pure ?_)))
  refine wpAny_bind (wp_fields e1 e4 ?_)
  refine wpAny_bind (wpAny_pure ?_)
  dsimp only
  refine wpAny_bind (wpAny_pure ?_)
  refine wpAny_bind (wp_rawItems e5 e6 ?_)
  refine wpAny_pure ?_
  rw [code_back]
  have e : min ((2 ^ 63 - 1 : Int)).toNat x.cps.size = x.cps.size := Nat.min_eq_right (by omega)
  have e' : min ((0 : Int)).toNat x.cps.size = 0 := by simp
  show Q { pattern := .ref P, string := .str x t, code := code, text := x.cps, kind := 0, groups := groups, pos := min ((0 : Int)).toNat x.cps.size, lim := min ((2 ^ 63 - 1 : Int)).toNat x.cps.size } s
  rw [e, e']; exact h
theorem wp_target2 {id f : String} {i : Int} {u : Tok} {Q : ReTarget → Shared → Prop} (H : PatAt s.heap P code groups) (hx : x.cps.size < 2 ^ 62) (h0 : 0 ≤ i) (hi : i < 2 ^ 62)
    (h : Q { pattern := .ref P, string := .str x t, code := code, text := x.cps, kind := 0, groups := groups, pos := min i.toNat x.cps.size, lim := x.cps.size } s) :
    wpAny (model prog w) A (reTarget id f ⟨[.ref P, .str x t, .int i u], []⟩) Q E s := by
  obtain ⟨po, pat, flags, T, to, n, e1, e2, e3, e4, e5, e6⟩ := H.is
  unfold reTarget
  dsimp only
  rw [named2]
  refine wpAny_bind (wpAny_pure ?_)
  dsimp only
  have hs : reSsize (.int i u) = pure i := by
    unfold reSsize asIndex asInt?
    show (if (decide (i < -(2 ^ 63)) || decide (i ≥ 2 ^ 63)) = true then _ else (pure i : Sem Int)) = pure i
    rw [if_neg (by simp; omega)]
  rw [hs]
  refine wpAny_bind (wpAny_pure (wpAny_bind (wpAny_pure ?_)))
  refine wpAny_bind (wp_fields e1 e4 ?_)
  refine wpAny_bind (wpAny_pure ?_)
  dsimp only
  refine wpAny_bind (wpAny_pure ?_)
  refine wpAny_bind (wp_rawItems e5 e6 ?_)
  refine wpAny_pure ?_
  rw [code_back]
  have e : min ((2 ^ 63 - 1 : Int)).toNat x.cps.size = x.cps.size := Nat.min_eq_right (by omega)
  show Q { pattern := .ref P, string := .str x t, code := code, text := x.cps, kind := 0, groups := groups, pos := min i.toNat x.cps.size, lim := min ((2 ^ 63 - 1 : Int)).toNat x.cps.size } s
  rw [e]; exact h
theorem wp_whole {Q : ReTarget → Shared → Prop} (H : PatAt s.heap P code groups)
    (h : Q { pattern := .ref P, string := .str x t, code := code, text := x.cps, kind := 0, groups := groups, pos := 0, lim := x.cps.size } s) :
    wpAny (model prog w) A (reWholeTarget (.ref P) (.str x t)) Q E s := by
  obtain ⟨po, pat, flags, T, to, n, e1, e2, e3, e4, e5, e6⟩ := H.is
  unfold reWholeTarget
  refine wpAny_bind (wp_fields e1 e4 ?_)
  refine wpAny_bind (wpAny_pure ?_)
  dsimp only
  refine wpAny_bind (wpAny_pure ?_)
  refine wpAny_bind (wp_rawItems e5 e6 ?_)
  refine wpAny_pure ?_
  rw [code_back]
  exact h
end
end RE
end Mine
end
section
open PySem PySem.W PyProof.Rows PySem.Calls PySem.Spec PySem.Builtin.Re
set_option maxRecDepth 100000
namespace Mine
namespace RE
open PySem.Sre
theorem plainAttrs_pattern : PlainAttrs "re.Pattern" :=
  ⟨⟨"object.__getattribute__", by rw [typeLookup_type, builtinLookup_eq_fast]; kernel_rfl, by decide +kernel⟩, by rw [typeLookup_type, builtinLookup_eq_fast]; kernel_rfl⟩
theorem plainAttrs_match : PlainAttrs "re.Match" :=
  ⟨⟨"object.__getattribute__", by rw [typeLookup_type, builtinLookup_eq_fast]; kernel_rfl, by decide +kernel⟩, by rw [typeLookup_type, builtinLookup_eq_fast]; kernel_rfl⟩
theorem owner_re_Pattern : Manifest.owners.lookup (String.ofList ['n', 'r', 'e', 't', 't', 'a', 'P', '.', 'e', 'r'].reverse) = some Manifest.sig_re_Pattern := by kernel_rfl
theorem owner_re_Match : Manifest.owners.lookup (String.ofList ['h', 'c', 't', 'a', 'M', '.', 'e', 'r'].reverse) = some Manifest.sig_re_Match := by kernel_rfl
theorem slot_pmatch : Slot "re.Pattern" "match" "re.Pattern.match" :=
  .of (owner := "re.Pattern") (n := "match") (by rw [typeLookup_type, builtinLookup_eq_fast]; kernel_rfl) (by decide +kernel) (by decide +kernel) (by decide +kernel)
    (by first | exact .inl (by decide +kernel) | exact .inr (by decide +kernel)) (by rw [isSubtype_type]; kernel_rfl)
theorem slot_psearch : Slot "re.Pattern" "search" "re.Pattern.search" :=
  .of (owner := "re.Pattern") (n := "search") (by rw [typeLookup_type, builtinLookup_eq_fast]; kernel_rfl) (by decide +kernel) (by decide +kernel) (by decide +kernel)
    (by first | exact .inl (by decide +kernel) | exact .inr (by decide +kernel)) (by rw [isSubtype_type]; kernel_rfl)
theorem slot_psub : Slot "re.Pattern" "sub" "re.Pattern.sub" :=
  .of (owner := "re.Pattern") (n := "sub") (by rw [typeLookup_type, builtinLookup_eq_fast]; kernel_rfl) (by decide +kernel) (by decide +kernel) (by decide +kernel)
    (by first | exact .inl (by decide +kernel) | exact .inr (by decide +kernel)) (by rw [isSubtype_type]; kernel_rfl)
theorem slot_group : Slot "re.Match" "group" "re.Match.group" :=
  .of (owner := "re.Match") (n := "group") (by rw [typeLookup_type, builtinLookup_eq_fast]; kernel_rfl) (by decide +kernel) (by decide +kernel) (by decide +kernel)
    (by first | exact .inl (by decide +kernel) | exact .inr (by decide +kernel)) (by rw [isSubtype_type]; kernel_rfl)
theorem slot_mend : Slot "re.Match" "end" "re.Match.end" :=
  .of (owner := "re.Match") (n := "end") (by rw [typeLookup_type, builtinLookup_eq_fast]; kernel_rfl) (by decide +kernel) (by decide +kernel) (by decide +kernel)
    (by first | exact .inl (by decide +kernel) | exact .inr (by decide +kernel)) (by rw [isSubtype_type]; kernel_rfl)
theorem slot_mstart : Slot "re.Match" "start" "re.Match.start" :=
  .of (owner := "re.Match") (n := "start") (by rw [typeLookup_type, builtinLookup_eq_fast]; kernel_rfl) (by decide +kernel) (by decide +kernel) (by decide +kernel)
    (by first | exact .inl (by decide +kernel) | exact .inr (by decide +kernel)) (by rw [isSubtype_type]; kernel_rfl)
theorem entry_pmatch : entryFor table "re.Pattern.match" = some Builtin.«re.Pattern.match» := entryFor_of_tree (by kernel_rfl)
theorem entry_psearch : entryFor table "re.Pattern.search" = some Builtin.«re.Pattern.search» := entryFor_of_tree (by kernel_rfl)
theorem entry_psub : entryFor table "re.Pattern.sub" = some Builtin.«re.Pattern.sub» := entryFor_of_tree (by kernel_rfl)
theorem entry_psubloop : entryFor table "re.Pattern.sub.loop" = some Builtin.«re.Pattern.sub.loop» := entryFor_of_tree (by kernel_rfl)
theorem entry_group : entryFor table "re.Match.group" = some Builtin.«re.Match.group» := entryFor_of_tree (by kernel_rfl)
theorem entry_mend : entryFor table "re.Match.end" = some Builtin.«re.Match.end» := entryFor_of_tree (by kernel_rfl)
theorem entry_mstart : entryFor table "re.Match.start" = some Builtin.«re.Match.start» := entryFor_of_tree (by kernel_rfl)
theorem args_pmatch1 (a b : Value) : argsOk "re.Pattern.match" ⟨[a, b], []⟩ := by unfold argsOk; rw [signature?_of (id := "re.Pattern.match") (n := ['h', 'c', 't', 'a', 'm']) (o := ['n', 'r', 'e', 't', 't', 'a', 'P', '.', 'e', 'r']) (by kernel_rfl) owner_re_Pattern]; kernel_rfl
theorem args_pmatch2 (a b c : Value) : argsOk "re.Pattern.match" ⟨[a, b, c], []⟩ := by unfold argsOk; rw [signature?_of (id := "re.Pattern.match") (n := ['h', 'c', 't', 'a', 'm']) (o := ['n', 'r', 'e', 't', 't', 'a', 'P', '.', 'e', 'r']) (by kernel_rfl) owner_re_Pattern]; kernel_rfl
theorem args_psearch1 (a b : Value) : argsOk "re.Pattern.search" ⟨[a, b], []⟩ := by unfold argsOk; rw [signature?_of (id := "re.Pattern.search") (n := ['h', 'c', 'r', 'a', 'e', 's']) (o := ['n', 'r', 'e', 't', 't', 'a', 'P', '.', 'e', 'r']) (by kernel_rfl) owner_re_Pattern]; kernel_rfl
theorem args_psearch2 (a b c : Value) : argsOk "re.Pattern.search" ⟨[a, b, c], []⟩ := by unfold argsOk; rw [signature?_of (id := "re.Pattern.search") (n := ['h', 'c', 'r', 'a', 'e', 's']) (o := ['n', 'r', 'e', 't', 't', 'a', 'P', '.', 'e', 'r']) (by kernel_rfl) owner_re_Pattern]; kernel_rfl
theorem args_psub (a b c : Value) : argsOk "re.Pattern.sub" ⟨[a, b, c], []⟩ := by unfold argsOk; rw [signature?_of (id := "re.Pattern.sub") (n := ['b', 'u', 's']) (o := ['n', 'r', 'e', 't', 't', 'a', 'P', '.', 'e', 'r']) (by kernel_rfl) owner_re_Pattern]; kernel_rfl
theorem args_group0 (a : Value) : argsOk "re.Match.group" ⟨[a], []⟩ := by unfold argsOk; rw [signature?_of (id := "re.Match.group") (n := ['p', 'u', 'o', 'r', 'g']) (o := ['h', 'c', 't', 'a', 'M', '.', 'e', 'r']) (by kernel_rfl) owner_re_Match]; kernel_rfl
theorem args_group1 (a b : Value) : argsOk "re.Match.group" ⟨[a, b], []⟩ := by unfold argsOk; rw [signature?_of (id := "re.Match.group") (n := ['p', 'u', 'o', 'r', 'g']) (o := ['h', 'c', 't', 'a', 'M', '.', 'e', 'r']) (by kernel_rfl) owner_re_Match]; kernel_rfl
theorem args_mend (a : Value) : argsOk "re.Match.end" ⟨[a], []⟩ := by unfold argsOk; rw [signature?_of (id := "re.Match.end") (n := ['d', 'n', 'e']) (o := ['h', 'c', 't', 'a', 'M', '.', 'e', 'r']) (by kernel_rfl) owner_re_Match]; kernel_rfl
theorem args_mstart (a : Value) : argsOk "re.Match.start" ⟨[a], []⟩ := by unfold argsOk; rw [signature?_of (id := "re.Match.start") (n := ['t', 'r', 'a', 't', 's']) (o := ['h', 'c', 't', 'a', 'M', '.', 'e', 'r']) (by kernel_rfl) owner_re_Match]; kernel_rfl
theorem type_pmatch : typeOf (.builtin "re.Pattern.match") = pure (.type "method_descriptor") := by show builtinType _ = _; rw [builtinType_eq_fast]; kernel_rfl
theorem type_psearch : typeOf (.builtin "re.Pattern.search") = pure (.type "method_descriptor") := by show builtinType _ = _; rw [builtinType_eq_fast]; kernel_rfl
theorem type_psub : typeOf (.builtin "re.Pattern.sub") = pure (.type "method_descriptor") := by show builtinType _ = _; rw [builtinType_eq_fast]; kernel_rfl
theorem type_group : typeOf (.builtin "re.Match.group") = pure (.type "method_descriptor") := by show builtinType _ = _; rw [builtinType_eq_fast]; kernel_rfl
theorem type_mend : typeOf (.builtin "re.Match.end") = pure (.type "method_descriptor") := by show builtinType _ = _; rw [builtinType_eq_fast]; kernel_rfl
theorem type_mstart : typeOf (.builtin "re.Match.start") = pure (.type "method_descriptor") := by show builtinType _ = _; rw [builtinType_eq_fast]; kernel_rfl
end RE
end Mine
end
section
open PySem PySem.W PyProof.Rows PySem.Calls PySem.Spec PySem.Builtin.Re
set_option maxRecDepth 100000
namespace Mine
namespace RE
open PySem.Sre
abbrev spanObj (sp : List Int) : Obj := { cls := .type "tuple", data := .seq (sp.map rawInt).toArray }
abbrev matchObj (x : Str) (t : Tok) (P : Addr) (pos lim : Nat) (li : Int) (T : Addr) : Obj := { cls := .type "re.Match", data := .fields #[.str x t, .ref P, rawInt pos, rawInt lim, rawInt li, .ref T] }
section
variable {prog : Program} {w : World} {A : Around} {E : Value → Shared → Prop} {s : Shared} {P : Addr} {code : Array Nat} {groups : Nat} {x : Str} {t : Tok} {h₀ : Heap} {L : Addr} {mm : Str → Option Value} {news : List (Addr × Obj)}
theorem wp_newFields {M₀ : Model} {A : Around} {E : Value → Shared → Prop} {s : Shared} {ty : String} {vs : List Value} {Q : Value → Shared → Prop} (hsz : vs.length ≤ 1000)
    (h : Q (.ref s.heap.objs.size) { s with heap := s.heap.push { cls := .type ty, data := .fields vs.toArray } }) : wpAny M₀ A (newFields ty vs) Q E s :=
  wpAny_newObj_type h (by
    show vs.toArray.size ≤ sizeLine + 2
    rw [List.size_toArray, sizeLine_eq]; omega)
theorem wp_newTup {M₀ : Model} {A : Around} {E : Value → Shared → Prop} {s : Shared} {vs : List Value} {Q : Value → Shared → Prop} (hsz : vs.length ≤ 1000)
    (h : Q (.ref s.heap.objs.size) { s with heap := s.heap.push { cls := .type "tuple", data := .seq vs.toArray } }) : wpAny M₀ A (newTuple vs) Q E s :=
  wpAny_newObj_type h (by
    show vs.toArray.size ≤ sizeLine
    rw [List.size_toArray, sizeLine_eq]; omega)
def spansOf (groups : Nat) (m : Sre.M) : List Value := (List.range groups).flatMap fun g =>
    match if ((2 * g + 1 : Nat) : Int) ≤ m.lastmark then (m.marks.getD (2 * g) none, m.marks.getD (2 * g + 1) none) else (none, none) with
    | (some b, some e) => [rawInt b, rawInt e]
    | _ => [rawInt (-1), rawInt (-1)]
def wrongOf (groups : Nat) (m : Sre.M) : Bool := (List.range groups).any (fun g => match m.marks.getD (2 * g) none, m.marks.getD (2 * g + 1) none with | some b, some e => ((2 * g + 1 : Nat) : Int) ≤ m.lastmark && e < b | _, _ => false)
theorem wp_newMatch {M₀ : Model} {A : Around} {E : Value → Shared → Prop} {s : Shared} {m : Sre.M} {pos lim : Nat} {sp : List Int} {Q : Value → Shared → Prop} (hw : wrongOf groups m = false) (hs : rawInt m.start :: rawInt m.handed :: spansOf groups m = sp.map rawInt) (hl : sp.length ≤ 1000)
    (h : Q (.ref (s.heap.objs.size + 1)) { s with heap := (s.heap.push (spanObj sp)).push (matchObj x t P pos lim m.lastindex s.heap.objs.size) }) :
    wpAny M₀ A (reNewMatch (.ref P) (.str x t) groups pos lim m) Q E s := by
  unfold reNewMatch
  show wpAny M₀ A (if wrongOf groups m = true then _ else _) Q E s
  rw [hw, if_neg Bool.false_ne_true]
  show wpAny M₀ A (newTuple (rawInt m.start :: rawInt m.handed :: spansOf groups m) >>= fun tv => newFields "re.Match" [.str x t, .ref P, rawInt pos, rawInt lim, rawInt m.lastindex, tv]) Q E s
  rw [hs]
  refine wpAny_bind (wp_newTup (by rw [List.length_map]; exact hl) (wp_newFields (by simp) ?_))
  have e : (s.heap.push { cls := .type "tuple", data := .seq (sp.map rawInt).toArray }).objs.size = s.heap.objs.size + 1 := Heap.size_push ..
  rw [e]
  exact h
theorem spans1 {m : Sre.M} {a b : Nat} (h3 : m.marks = #[some a, some b]) (h4 : m.lastmark = 1) : spansOf 1 m = [rawInt a, rawInt b] := by
  unfold spansOf
  simp [List.range_succ, h3, h4]
theorem wrong1 {m : Sre.M} {a b : Nat} (h3 : m.marks = #[some a, some b]) (h4 : m.lastmark = 1) (hab : a ≤ b) : wrongOf 1 m = false := by
  unfold wrongOf
  simp [List.range_succ, h3, h4]
  omega
theorem spans2 {m : Sre.M} (h4 : m.lastmark = -1) : spansOf 2 m = [rawInt (-1), rawInt (-1), rawInt (-1), rawInt (-1)] := by
  unfold spansOf
  simp [List.range_succ, h4]
theorem wrong2 {m : Sre.M} (h4 : m.lastmark = -1) : wrongOf 2 m = false := by
  unfold wrongOf
  simp only [List.range_succ, List.range_zero, List.nil_append, List.cons_append, List.any_cons, List.any_nil, Bool.or_false, Bool.or_eq_false_iff, h4]
  constructor <;> (split <;> simp)
end

/-- the run of signs that f takes, from place p on -/
def runN (f : Nat → Bool) (l : List Nat) (p : Nat) : Nat := ((l.drop p).takeWhile f).length
theorem runL_S (f : Nat → Bool) (l : List Nat) (p : Nat) : runL f (S l).cps p = runN f l p := by
  unfold runL runN; rw [cps_S]
theorem S_size (l : List Nat) : (S l).cps.size = l.length := by simp [S]
theorem S_getD {l : List Nat} {p : Nat} (h : p < l.length) : l[p]? = some ((S l).cps.getD p 0) := by
  simp [S, Array.getD, h]
section
variable {prog : Program} {w : World} {A : Around} {E : Value → Shared → Prop} {s : Shared} {P : Addr} {code : Array Nat} {groups : Nat} {l : List Nat} {t u : Tok} {Q : Value → Shared → Prop}
theorem PatAt.typeIs (H : PatAt s.heap P code groups) : s.TypeIs (.ref P) "re.Pattern" := by
  obtain ⟨po, pat, flags, T, to, n, e1, e2, _⟩ := H.is
  exact ⟨po, e1, e2⟩
theorem PatAt.noDict (H : PatAt s.heap P code groups) : ∀ a, Value.ref P = .ref a → ∃ o, s.heap.get? a = some o ∧ o.dict = none := by
  obtain ⟨po, pat, flags, T, to, n, e1, e2, e3, _⟩ := H.is
  intro a e; cases e; exact ⟨po, e1, e3⟩
theorem wp_answer {tg : ReTarget} {m : Sre.M} {n : Nat} {Q : Fin → Shared → Prop} {M₀ : Model} {A : Around} {E : Value → Shared → Prop} {s : Shared} (hn : n ≤ 100000000)
    (ho : (m.runFor n).outcome = some .matched ∧ wpAny M₀ A (reNewMatch tg.pattern tg.string tg.groups tg.pos tg.lim (m.runFor n)) (fun v s' => Q (.done (.ret v)) s') E s ∨ (m.runFor n).outcome = some .failed ∧ Q (.done (.ret .none)) s) :
    wpAny M₀ A (reAnswer tg m) Q E s := by
  unfold reAnswer
  refine wpAny_bind (wp_end hn (ho.imp (fun h => ⟨h.1, ?_⟩) fun h => ⟨h.1, ?_⟩))
  · exact wpAny_bind (wpAny_mono h.2 (fun v s' q => wpAny_pure q) fun _ _ e => e)
  · exact wpAny_pure h.2
theorem call_key {p : Nat} (H : PatAt s.heap P cK 1) (hl : l.length < 100000) (hp : p ≤ l.length)
    (yes : ∀ n, n = runN tokC l p → 1 ≤ n → l[p + n]? = some 61 → Q (.ref (s.heap.objs.size + 1)) { s with heap := (s.heap.push (spanObj [(p : Int), (p + n + 1 : Nat), p, (p + n : Nat)])).push (matchObj (S l) t P p l.length 1 s.heap.objs.size) })
    (no : (runN tokC l p = 0 ∨ l[p + runN tokC l p]? ≠ some 61) → Q .none s) :
    wpAny (model prog w) A (call (.builtin "re.Pattern.match") [.ref P, .str (S l) t, .int (p : Int) u]) Q E s := by
  refine wpAny_call_entry slot_pmatch H.typeIs entry_pmatch ?_ (args_pmatch2 _ _ _)
  show wpAny _ _ (reTarget "re.Pattern.match" "match" ⟨[.ref P, .str (S l) t, .int (p : Int) u], []⟩ >>= fun tg => reAnswer tg (Sre.forMatch tg.code tg.text tg.groups tg.pos tg.lim false false)) _ _ s
  refine wpAny_bind (wp_target2 H (by rw [S_size]; omega) (by omega) (by omega) ?_)
  dsimp only
  have e : min ((p : Int)).toNat (S l).cps.size = p := by rw [S_size]; omega
  rw [e]
  have hs : (S l).cps.size < 1000000 := by rw [S_size]; omega
  have hps : p ≤ (S l).cps.size := by rw [S_size]; exact hp
  by_cases hk : 1 ≤ runN tokC l p ∧ l[p + runN tokC l p]? = some 61
  · have hlt : p + runN tokC l p < l.length := by
      rcases Nat.lt_or_ge (p + runN tokC l p) l.length with q | q
      · exact q
      · rw [List.getElem?_eq_none q] at hk; cases hk.2
    have h3 : (S l).cps.getD (p + runN tokC l p) 0 = 61 := by
      have := hk.2
      rw [S_getD hlt] at this
      exact Option.some.inj this
    obtain ⟨k, hkb, r1, r2, r3, r4, r5, r6⟩ := ends_key_yes hps hs (by rw [runL_S]; exact hk.1) (by rw [runL_S, S_size]; exact hlt) (by rw [runL_S]; exact h3)
    rw [runL_S] at r3 r4
    refine wp_answer (n := k) (by omega) (.inl ⟨r1, ?_⟩)
    refine wp_newMatch (sp := [(p : Int), (p + runN tokC l p + 1 : Nat), p, (p + runN tokC l p : Nat)]) (wrong1 r4 r5 (by omega)) (by rw [r2, r3, spans1 r4 r5]; rfl) (by simp) ?_
    rw [r6, S_size]
    exact ⟨_, rfl, yes _ rfl hk.1 hk.2⟩
  · have h4 : runN tokC l p = 0 ∨ l[p + runN tokC l p]? ≠ some 61 := by
      by_cases q : runN tokC l p = 0
      · exact .inl q
      · exact .inr fun e => hk ⟨by omega, e⟩
    obtain ⟨k, hkb, r1⟩ := ends_key_no hps hs (by
      rw [runL_S]
      refine h4.imp _root_.id fun q hlt e => q ?_
      rw [S_size] at hlt
      rw [S_getD hlt, e])
    refine wp_answer (n := k) (by rw [S_size] at hkb; omega) (.inr ⟨r1, _, rfl, no h4⟩)
theorem call_tok {p : Nat} (H : PatAt s.heap P cT 0) (hl : l.length < 100000) (hp : p ≤ l.length)
    (yes : ∀ n, n = runN tokC l p → 1 ≤ n → Q (.ref (s.heap.objs.size + 1)) { s with heap := (s.heap.push (spanObj [(p : Int), (p + n : Nat)])).push (matchObj (S l) t P p l.length (-1) s.heap.objs.size) })
    (no : runN tokC l p = 0 → Q .none s) :
    wpAny (model prog w) A (call (.builtin "re.Pattern.match") [.ref P, .str (S l) t, .int (p : Int) u]) Q E s := by
  refine wpAny_call_entry slot_pmatch H.typeIs entry_pmatch ?_ (args_pmatch2 _ _ _)
  show wpAny _ _ (reTarget "re.Pattern.match" "match" ⟨[.ref P, .str (S l) t, .int (p : Int) u], []⟩ >>= fun tg => reAnswer tg (Sre.forMatch tg.code tg.text tg.groups tg.pos tg.lim false false)) _ _ s
  refine wpAny_bind (wp_target2 H (by rw [S_size]; omega) (by omega) (by omega) ?_)
  dsimp only
  have e : min ((p : Int)).toNat (S l).cps.size = p := by rw [S_size]; omega
  rw [e]
  have hs : (S l).cps.size < 1000000 := by rw [S_size]; omega
  have hps : p ≤ (S l).cps.size := by rw [S_size]; exact hp
  by_cases hk : 1 ≤ runN tokC l p
  · obtain ⟨k, hkb, r1, r2, r3, r4, r5, r6⟩ := ends_tok_yes hps hs (by rw [runL_S]; exact hk)
    rw [runL_S] at r3
    refine wp_answer (n := k) (by omega) (.inl ⟨r1, ?_⟩)
    refine wp_newMatch (sp := [(p : Int), (p + runN tokC l p : Nat)]) rfl (by rw [r2, r3]; rfl) (by simp) ?_
    rw [r6, S_size]
    exact ⟨_, rfl, yes _ rfl hk⟩
  · obtain ⟨k, hkb, r1⟩ := ends_tok_no hps hs (by rw [runL_S]; omega)
    exact wp_answer (n := k) (by omega) (.inr ⟨r1, _, rfl, no (by omega)⟩)
theorem call_delim {p : Nat} (H : PatAt s.heap P cD 0) (hl : l.length < 100000) (hp : p ≤ l.length)
    (yes : ∀ o n, searchD (l.drop p) = some o → n = runN blankC l (p + o + 1) → Q (.ref (s.heap.objs.size + 1)) { s with heap := (s.heap.push (spanObj [((p + o : Nat) : Int), (p + o + 1 + n : Nat)])).push (matchObj (S l) t P p l.length (-1) s.heap.objs.size) })
    (no : searchD (l.drop p) = none → Q .none s) :
    wpAny (model prog w) A (call (.builtin "re.Pattern.search") [.ref P, .str (S l) t, .int (p : Int) u]) Q E s := by
  refine wpAny_call_entry slot_psearch H.typeIs entry_psearch ?_ (args_psearch2 _ _ _)
  show wpAny _ _ (reTarget "re.Pattern.search" "search" ⟨[.ref P, .str (S l) t, .int (p : Int) u], []⟩ >>= fun tg => reAnswer tg (Sre.forSearch tg.code tg.text tg.groups tg.pos tg.lim false)) _ _ s
  refine wpAny_bind (wp_target2 H (by rw [S_size]; omega) (by omega) (by omega) ?_)
  dsimp only
  have e : min ((p : Int)).toNat (S l).cps.size = p := by rw [S_size]; omega
  rw [e]
  have hs : (S l).cps.size < 1000000 := by rw [S_size]; omega
  have hps : p ≤ (S l).cps.size := by rw [S_size]; exact hp
  have h := ends_D hps hs
  rw [cps_S] at h
  cases hq : searchD (l.drop p) with
  | none =>
    rw [hq] at h
    obtain ⟨k, hkb, r1⟩ := h
    exact wp_answer (n := k) (by rw [S_size] at hkb; omega) (.inr ⟨r1, _, rfl, no hq⟩)
  | some o =>
    rw [hq] at h
    obtain ⟨k, hkb, r1, r2, r3, r4, r5, r6⟩ := h
    rw [runL_S] at r3
    refine wp_answer (n := k) (by rw [S_size] at hkb; omega) (.inl ⟨r1, ?_⟩)
    refine wp_newMatch (sp := [((p + o : Nat) : Int), (p + o + 1 + runN blankC l (p + o + 1) : Nat)]) rfl (by rw [r2, r3]; rfl) (by simp) ?_
    rw [r6, S_size]
    exact ⟨_, rfl, yes o _ hq rfl⟩
/-- a key of ours: key0 .. key3 -/
def keyN (k : Nat) : List Nat := [107, 101, 121, 48 + k]
theorem ends_key4 {k : Nat} (hk : k < 4) : ∃ n, n ≤ 200 ∧ ((forSearch cM (S (keyN k)).cps 2 0 4 false).runFor n).outcome = some .matched ∧ ((forSearch cM (S (keyN k)).cps 2 0 4 false).runFor n).start = 4 ∧
    ((forSearch cM (S (keyN k)).cps 2 0 4 false).runFor n).handed = 4 ∧ ((forSearch cM (S (keyN k)).cps 2 0 4 false).runFor n).lastmark = -1 := by
  have e : (S (keyN k)).cps = #[107, 101, 121, 48 + k] := rfl
  rw [e]
  exact ends_M (mark_key ⟨k, hk⟩) rfl
theorem call_mark {k : Nat} (H : PatAt s.heap P cM 2) (hk : k < 4)
    (yes : ∀ li : Int, Q (.ref (s.heap.objs.size + 1)) { s with heap := (s.heap.push (spanObj [4, 4, -1, -1, -1, -1])).push (matchObj (S (keyN k)) t P 0 4 li s.heap.objs.size) }) :
    wpAny (model prog w) A (call (.builtin "re.Pattern.search") [.ref P, .str (S (keyN k)) t]) Q E s := by
  refine wpAny_call_entry slot_psearch H.typeIs entry_psearch ?_ (args_psearch1 _ _)
  show wpAny _ _ (reTarget "re.Pattern.search" "search" ⟨[.ref P, .str (S (keyN k)) t], []⟩ >>= fun tg => reAnswer tg (Sre.forSearch tg.code tg.text tg.groups tg.pos tg.lim false)) _ _ s
  refine wpAny_bind (wp_target1 H (by rw [S_size]; show 4 < _; decide) ?_)
  dsimp only
  have hsz : (S (keyN k)).cps.size = 4 := rfl
  rw [hsz]
  obtain ⟨n, hn, r1, r2, r3, r4⟩ := ends_key4 hk
  generalize Sre.forSearch cM (S (keyN k)).cps 2 0 4 false = mm at r1 r2 r3 r4 ⊢
  refine wp_answer (n := n) (Nat.le_trans hn (by decide)) (.inl ⟨r1, ?_⟩)
  refine wp_newMatch (sp := [4, 4, -1, -1, -1, -1]) (wrong2 r4) (by rw [r2, r3, spans2 r4]; rfl) (by simp) ?_
  exact ⟨_, rfl, yes _⟩
end
end RE
end Mine
end
section
open PySem PySem.W PyProof.Rows PySem.Calls PySem.Spec PySem.Builtin.Re
set_option maxRecDepth 100000
namespace Mine
namespace RE
open PySem.Sre
section
variable {prog : Program} {w : World} {A : Around} {E : Value → Shared → Prop} {s : Shared} {P D T : Addr} {l : List Nat} {t u : Tok} {Q : Value → Shared → Prop} {pos lim : Nat} {li : Int} {sp : List Int} {a b : Nat}
/-- the part of l from a up to b -/
def cut (l : List Nat) (a b : Nat) : List Nat := (l.drop a).take (b - a)
theorem extract_S (l : List Nat) (a b : Nat) : (⟨(S l).cps.extract a b⟩ : Str) = S (cut l a b) := by
  simp [S, cut]
theorem cut_len (l : List Nat) (a b : Nat) : (cut l a b).length ≤ l.length := by
  unfold cut
  rw [List.length_take, List.length_drop]; omega
theorem wp_found {M₀ : Model} {A : Around} {E : Value → Shared → Prop} {s : Shared} {Q : ReFound → Shared → Prop} (hD : s.heap.get? D = some (matchObj (S l) t P pos lim li T)) (hT : s.heap.get? T = some (spanObj sp))
    (h : Q { fields := #[.str (S l) t, .ref P, rawInt pos, rawInt lim, rawInt li, .ref T], spans := sp.toArray } s) : wpAny M₀ A (reFound (.ref D)) Q E s := by
  unfold reFound
  refine wpAny_bind (wp_fields hD rfl (wpAny_bind (wp_rawItems hT rfl (wpAny_pure ?_))))
  have e : ((sp.map rawInt).toArray.map reRawOf) = sp.toArray := by
    rw [List.map_toArray, List.map_map]
    congr 1
    conv => rhs; rw [← List.map_id sp]
    rfl
  rw [e]; exact h
theorem wp_groupText {M₀ : Model} {A : Around} {E : Value → Shared → Prop} {s : Shared} {Q : Value → Shared → Prop} {g : Nat} (hl : l.length < 100000) (h1 : sp.toArray.getD (2 * g) (-1) = (a : Int)) (h2 : sp.toArray.getD (2 * g + 1) (-1) = (b : Int))
    (h : Q (.str (S (cut l a b)) s.toks) { s with toks := s.toks + 1 }) : wpAny M₀ A (reGroupText { fields := #[.str (S l) t, .ref P, rawInt pos, rawInt lim, rawInt li, .ref T], spans := sp.toArray } g .none) Q E s := by
  unfold reGroupText
  dsimp only
  rw [h1, h2]
  rw [if_neg (by simp)]
  refine wpAny_bind (wpAny_pure ?_)
  show wpAny M₀ A (mkStr ⟨(S l).cps.extract ((a : Int)).toNat ((b : Int)).toNat⟩) Q E s
  rw [Int.toNat_natCast, Int.toNat_natCast, extract_S]
  exact wpAny_mkStr h (by rw [S_len, sizeLine_eq]; have := cut_len l a b; omega)
theorem typeIs_match (hD : s.heap.get? D = some (matchObj (S l) t P pos lim li T)) : s.TypeIs (.ref D) "re.Match" := ⟨_, hD, rfl⟩
theorem call_group1 (hD : s.heap.get? D = some (matchObj (S l) t P pos lim li T)) (hT : s.heap.get? T = some (spanObj sp)) (hl : l.length < 100000) (hs : 2 < sp.length) (h1 : sp.toArray.getD 2 (-1) = (a : Int)) (h2 : sp.toArray.getD 3 (-1) = (b : Int))
    (h : Q (.str (S (cut l a b)) s.toks) { s with toks := s.toks + 1 }) : wpAny (model prog w) A (call (.builtin "re.Match.group") [.ref D, .int 1 u]) Q E s := by
  refine wpAny_call_entry slot_group (typeIs_match hD) entry_group ?_ (args_group1 _ _)
  show wpAny _ _ (reFound (.ref D) >>= fun x => reGroupNumber x (.int 1 u) >>= fun g => reGroupText x g .none >>= fun v => ret v) _ _ s
  refine wpAny_bind (wp_found hD hT ?_)
  refine wpAny_bind (m := reGroupNumber _ _) ?_
  have hn : reGroupNumber { fields := #[.str (S l) t, .ref P, rawInt pos, rawInt lim, rawInt li, .ref T], spans := sp.toArray } (.int 1 u) = pure 1 := by
    show (if (decide ((1 : Int) < 0) || decide (2 * (1 : Int) ≥ ((sp.toArray.size : Nat) : Int))) = true then _ else pure (1 : Int).toNat : Sem Nat) = pure 1
    rw [if_neg (by simp; omega)]
    rfl
  rw [hn]
  refine wpAny_pure (wpAny_bind (wp_groupText (g := 1) hl h1 h2 (wpAny_pure ⟨_, rfl, h⟩)))
theorem call_group0 (hD : s.heap.get? D = some (matchObj (S l) t P pos lim li T)) (hT : s.heap.get? T = some (spanObj sp)) (hl : l.length < 100000) (h1 : sp.toArray.getD 0 (-1) = (a : Int)) (h2 : sp.toArray.getD 1 (-1) = (b : Int))
    (h : Q (.str (S (cut l a b)) s.toks) { s with toks := s.toks + 1 }) : wpAny (model prog w) A (call (.builtin "re.Match.group") [.ref D]) Q E s := by
  refine wpAny_call_entry slot_group (typeIs_match hD) entry_group ?_ (args_group0 _)
  show wpAny _ _ (reFound (.ref D) >>= fun x => reGroupText x 0 .none >>= fun v => ret v) _ _ s
  refine wpAny_bind (wp_found hD hT (wpAny_bind (wp_groupText (g := 0) hl h1 h2 (wpAny_pure ⟨_, rfl, h⟩))))
theorem call_end (hD : s.heap.get? D = some (matchObj (S l) t P pos lim li T)) (hT : s.heap.get? T = some (spanObj sp)) {i : Int} (h2 : sp.toArray.getD 1 (-1) = i)
    (h : Q (.int i s.toks) { s with toks := s.toks + 1 }) : wpAny (model prog w) A (call (.builtin "re.Match.end") [.ref D]) Q E s := by
  refine wpAny_call_entry slot_mend (typeIs_match hD) entry_mend ?_ (args_mend _)
  show wpAny _ _ ((reFound (.ref D) >>= fun x => (pure 0 : Sem Nat) >>= fun g => pure (x, g)) >>= fun (p : ReFound × Nat) => retInt (p.1.spans.getD (2 * p.2 + 1) (-1))) _ _ s
  refine wpAny_bind (wpAny_bind (wp_found hD hT (wpAny_bind (wpAny_pure (wpAny_pure ?_)))))
  show wpAny _ _ (retInt (sp.toArray.getD 1 (-1))) _ _ s
  rw [h2]
  exact wpAny_bind (wpAny_mkInt (wpAny_pure ⟨_, rfl, h⟩))
theorem call_start (hD : s.heap.get? D = some (matchObj (S l) t P pos lim li T)) (hT : s.heap.get? T = some (spanObj sp)) {i : Int} (h2 : sp.toArray.getD 0 (-1) = i)
    (h : Q (.int i s.toks) { s with toks := s.toks + 1 }) : wpAny (model prog w) A (call (.builtin "re.Match.start") [.ref D]) Q E s := by
  refine wpAny_call_entry slot_mstart (typeIs_match hD) entry_mstart ?_ (args_mstart _)
  show wpAny _ _ ((reFound (.ref D) >>= fun x => (pure 0 : Sem Nat) >>= fun g => pure (x, g)) >>= fun (p : ReFound × Nat) => retInt (p.1.spans.getD (2 * p.2) (-1))) _ _ s
  refine wpAny_bind (wpAny_bind (wp_found hD hT (wpAny_bind (wpAny_pure (wpAny_pure ?_)))))
  show wpAny _ _ (retInt (sp.toArray.getD 0 (-1))) _ _ s
  rw [h2]
  exact wpAny_bind (wpAny_mkInt (wpAny_pure ⟨_, rfl, h⟩))
end
end RE
end Mine
end
section
open PySem PySem.W PyProof.Rows PySem.Calls PySem.Spec PySem.Builtin.Re
set_option maxRecDepth 100000
namespace Mine
/-- backslashes taken off -/
def unsl : List Nat → List Nat
  | [] => []
  | [c] => [c]
  | c :: d :: r => if c = 92 ∧ d ≠ 10 then d :: unsl r else c :: unsl (d :: r)
namespace RE
open PySem.Sre
theorem searchU_cons2 (c d : Nat) (r : List Nat) : searchU (c :: d :: r) = if c = 92 ∧ d ≠ 10 then some 0 else (searchU (d :: r)).map (· + 1) := by
  conv => lhs; unfold searchU
  by_cases h : c = 92 ∧ d ≠ 10
  · rw [if_pos (by simp [h.1, h.2]), if_pos h]
  · rw [if_neg (by simpa using h), if_neg h]
theorem searchU_one (c : Nat) : searchU [c] = none := by
  unfold searchU
  rw [if_neg (by simp)]
  rfl
theorem unsl_none : ∀ l : List Nat, searchU l = none → unsl l = l
  | [], _ => rfl
  | [c], _ => rfl
  | c :: d :: r, h => by
    rw [searchU_cons2] at h
    by_cases hc : c = 92 ∧ d ≠ 10
    · rw [if_pos hc] at h; cases h
    · rw [if_neg hc] at h
      have h' : searchU (d :: r) = none := by
        cases q : searchU (d :: r) with
        | none => rfl
        | some o => rw [q] at h; cases h
      rw [unsl, if_neg hc, unsl_none (d :: r) h']
theorem unsl_some : ∀ (l : List Nat) (o : Nat), searchU l = some o → ∃ d, l[o + 1]? = some d ∧ unsl l = l.take o ++ d :: unsl (l.drop (o + 2)) ∧ o + 2 ≤ l.length
  | [], o, h => by cases h
  | [c], o, h => by rw [searchU_one] at h; cases h
  | c :: d :: r, o, h => by
    rw [searchU_cons2] at h
    by_cases hc : c = 92 ∧ d ≠ 10
    · rw [if_pos hc] at h
      cases h
      exact ⟨d, rfl, by rw [unsl, if_pos hc]; rfl, by simp⟩
    · rw [if_neg hc] at h
      cases q : searchU (d :: r) with
      | none => rw [q] at h; cases h
      | some o' =>
        rw [q] at h
        cases h
        obtain ⟨e, h1, h2, h3⟩ := unsl_some (d :: r) o' q
        refine ⟨e, by simpa using h1, ?_, by simp at h3 ⊢; omega⟩
        rw [unsl, if_neg hc, h2]
        simp

section
variable {prog : Program} {w : World} {A : Around} {E : Value → Shared → Prop} {s : Shared} {P D T LL F : Addr} {l : List Nat} {t u : Tok} {Q : Value → Shared → Prop}
def vals (ps : List (List Nat × Tok)) : List Value := strValues (ps.map fun p => (S p.1, p.2))
theorem vals_snoc (ps : List (List Nat × Tok)) (x : List Nat) (t : Tok) : (vals ps).toArray.push (.str (S x) t) = (vals (ps ++ [(x, t)])).toArray := by
  simp [vals, strValues]
theorem wp_push {M₀ : Model} {A : Around} {E : Value → Shared → Prop} {s : Shared} {items : Array Value} {v : Value} {Q : Unit → Shared → Prop} (hl : s.heap.IsList LL items) (hsz : items.size ≤ 100000)
    (h : ∀ h', h'.IsList LL (items.push v) → Heap.SameBut LL s.heap h' → Q () { s with heap := h' }) : wpAny M₀ A (updateSeq LL fun x => x.push v) Q E s := by
  obtain ⟨o, ho, hc, n, hd⟩ := id hl
  obtain ⟨n', hd'⟩ := Obj.data_mapSeq hd (·.push v)
  refine wpAny_updateSeq ho hd (h _ ?_ (Heap.SameBut.update ..)) (hz := by rw [sizeLine_eq]; omega) (_hz' := by rw [Array.size_push, sizeLine_eq]; omega)
  exact ⟨_, Heap.get?_update_self _ ho (Obj.isFreed_of_seq hd'), (Obj.cls_mapSeq ..).trans hc, n', hd'⟩
theorem wp_slice {M₀ : Model} {A : Around} {E : Value → Shared → Prop} {s : Shared} {Q : Value → Shared → Prop} {a b : Nat} (hl : l.length < 100000)
    (h : Q (.str (S (cut l a b)) s.toks) { s with toks := s.toks + 1 }) : wpAny M₀ A (reSlice (S l).cps 0 a b) Q E s := by
  show wpAny M₀ A (mkStr ⟨(S l).cps.extract a b⟩) Q E s
  rw [extract_S]
  exact wpAny_mkStr h (by rw [S_len, sizeLine_eq]; have := cut_len l a b; omega)
/-- the pieces joined -/
theorem wp_joinTail {ps : List (List Nat × Tok)} {Q : Fin → Shared → Prop} (hl : l.length < 1000) (hL : s.heap.IsList LL (vals ps).toArray) (hn : ps.length ≤ 2000) (hb : ∀ p ∈ ps, p.1.length ≤ 1000)
    (h : ∀ (t' : Tok) (k : Nat), Q (.done (.ret (.str (S (ps.map (·.1)).flatten) t'))) { s with toks := k }) :
    wpAny (model prog w) A (do
      let joiner ← reSlice (S l).cps 0 0 0
      let v ← seqItems? (.ref LL)
      if (v.getD #[]).isEmpty = true then do
        let text ← pure joiner
        ret text
      else do
        let text ← call (.builtin "str.join") [joiner, .ref LL]
        ret text) Q E s := by
  refine wpAny_bind (wp_slice (by omega) ?_)
  obtain ⟨o, ho, hc, n, hd⟩ := id hL
  unfold seqItems?
  refine wpAny_bind (wpAny_bind (wpAny_load ho ?_))
  rw [hd]
  refine wpAny_pure ?_
  have e0 : cut l 0 0 = [] := by simp [cut]
  rw [e0]
  cases ps with
  | nil =>
    rw [if_pos (by rfl)]
    exact wpAny_bind (wpAny_pure (wpAny_pure (h _ _)))
  | cons p r =>
    rw [if_neg (by simp [vals, strValues])]
    have hok : JoinOk (S []) ((((p :: r).map (·.1)) : List (List Nat)).map S) = true := joinOk_S [] _ 1000 (by simpa using hb) (by simp at hn ⊢; omega)
    refine wpAny_bind (SC.join (texts := ((p :: r).map (·.1)).map S) (l := (p :: r).map fun (p : List Nat × Tok) => (S p.1, p.2)) hL (by simp) hok fun t' k => ?_)
    rw [show Txt.join (S []) (((p :: r).map (·.1)).map S) = S (joinL [] ((p :: r).map (·.1))) from txtjoin_S _ _, joinL_nil]
    exact wpAny_pure (h t' k)

abbrev subArgs (P LL F : Addr) (l : List Nat) (t : Tok) (n : Int) (st : Nat) (must : Bool) : Args := ⟨[.ref P, .str (S l) t, .ref F, rawInt 1, rawInt 0, rawInt n, rawInt st, rawInt st, .bool must, .ref LL, .bool false], []⟩
theorem plain_subloop : plainId "re.Pattern.sub.loop" = true := by decide +kernel
theorem plain_sub : plainId "re.Pattern.sub" = true := by decide +kernel
/-- what a call of the replacing function at a match is to be: the sign behind the backslash -/
def Repl (prog : Program) (w : World) (A : Around) (E : Value → Shared → Prop) (s : Shared) (g : Heap) (P F : Addr) (l : List Nat) (t : Tok) : Prop :=
  ∀ (h : Heap) (tk : Nat) (D T : Addr) (a d : Nat), 0 < tk → g.StaysIn h → h.get? D = some (matchObj (S l) t P 0 l.length 1 T) → h.get? T = some (spanObj [(a : Int), (a + 2 : Nat), (a + 1 : Nat), (a + 2 : Nat)]) → l[a + 1]? = some d → a + 2 ≤ l.length →
    wpAny (model prog w) A (call (.ref F) [.ref D]) (fun v s'' => ∃ t' h' tk', v = .str (S [d]) t' ∧ s'' = { s with heap := h', toks := tk' } ∧ h.StaysIn h') E { s with heap := h, toks := tk }
theorem wp_subItem {M₀ : Model} {A : Around} {E : Value → Shared → Prop} {s : Shared} {m : Sre.M} {st hd a b d : Nat} {n : Int} {items : Array Value} {Q : Fin → Shared → Prop} (h1 : m.start = st) (h2 : m.handed = hd) (h3 : m.marks = #[some a, some b]) (h4 : m.lastmark = 1) (h5 : m.lastindex = 1) (hab : a ≤ b) (hne : (hd == st) = false)
    (hl : s.heap.IsList LL items) (hsz : items.size ≤ 100000)
    (hcall : wpAny M₀ A (call (.ref F) [.ref (s.heap.objs.size + 1)]) (fun v s'' => ∃ t' h' tk', v = .str (S [d]) t' ∧ s'' = { s with heap := h', toks := tk' } ∧ ((s.heap.push (spanObj [(st : Int), hd, a, b])).push (matchObj (S l) t P 0 (S l).cps.size 1 s.heap.objs.size)).StaysIn h') E { s with heap := (s.heap.push (spanObj [(st : Int), hd, a, b])).push (matchObj (S l) t P 0 (S l).cps.size 1 s.heap.objs.size) })
    (h : ∀ t' h' tk', h'.IsList LL (items.push (.str (S [d]) t')) → (∀ b o, b ≠ LL → s.heap.get? b = some o → h'.get? b = some o) → Q (.again (.builtin "re.Pattern.sub.loop" (subArgs P LL F l t (n + 1) hd false))) { s with heap := h', toks := tk' }) :
    wpAny M₀ A (do
      let found ← reNewMatch (.ref P) (.str (S l) t) 1 0 (S l).cps.size m
      let item ← holding [found] (if ((1 : Int) == 1) = true then call (.ref F) [found] else do
        let r ← reFound found
        reExpand (.ref F) r)
      if (item != Value.none) = true then do
        updateSeq LL fun x => x.push item
        again (Code.builtin "re.Pattern.sub.loop" ⟨[.ref P, .str (S l) t, .ref F, .int 1 0, .int 0 0, .int (n + 1) 0, .int (m.handed : Nat) 0, .int (m.handed : Nat) 0, .bool (m.handed == m.start), .ref LL, .bool false], []⟩)
      else
        again (Code.builtin "re.Pattern.sub.loop" ⟨[.ref P, .str (S l) t, .ref F, .int 1 0, .int 0 0, .int (n + 1) 0, .int (m.handed : Nat) 0, .int (m.handed : Nat) 0, .bool (m.handed == m.start), .ref LL, .bool false], []⟩)) Q E s := by
  refine wpAny_bind ?_
  refine wp_newMatch (sp := [(st : Int), hd, a, b]) (wrong1 h3 h4 hab) (by rw [h1, h2, spans1 h3 h4]; rfl) (by simp) ?_
  rw [h5]
  refine wpAny_bind (wpAny_holding ?_)
  rw [if_pos (by decide)]
  refine wpAny_mono hcall (fun v s'' q => ?_) fun _ _ e => e
  obtain ⟨t', h', tk', rfl, rfl, hk⟩ := q
  rw [if_pos (by rfl)]
  have up : ∀ b o, s.heap.get? b = some o → h'.get? b = some o := fun b o e => hk b o (Heap.get?_push_of_some _ (Heap.get?_push_of_some _ e))
  refine wpAny_bind (wp_push (hl.at fun o e => up _ o e) hsz fun h'' hl'' hs'' => ?_)
  rw [h1, h2, hne]
  exact wpAny_pure (h t' h'' tk' hl'' fun b o hb e => hs''.extBut b o hb (up b o e))
theorem sub_loop {g : Heap} {X : List Nat} {R : Result → Shared → Prop} (H : PatAt g P cU 1) (hL : g.get? LL = none) (hl : l.length < 1000) (hcall : Repl prog w A.in1 (fun e s' => R (.error e) s') s g P F l t)
    (hR : ∀ t' h' tk', g.StaysIn h' → R (.ok (.ret (.str (S X) t'))) { s with heap := h', toks := tk' }) :
    ∀ (k st : Nat), st + k = l.length → ∀ (ps : List (List Nat × Tok)) (n : Int) (h : Heap) (tk : Nat), 0 < tk → g.StaysIn h → h.IsList LL (vals ps).toArray → ps.length ≤ st → (∀ p ∈ ps, p.1.length ≤ 1000) → (ps.map (·.1)).flatten ++ unsl (l.drop st) = X →
      codeAny (model prog w) A (.builtin "re.Pattern.sub.loop" (subArgs P LL F l t n st false)) R { s with heap := h, toks := tk } := by
  intro k
  induction k using Nat.strongRecOn with
  | ind k ih =>
  intro st hst ps n h tk htk hg hli hps hpl hX
  refine codeAny_builtin entry_psubloop ?_
  rw [Around.under_plainId plain_subloop]
  have H' : PatAt h P cU 1 := H.keeps hg
  show wpAny _ _ (reWholeTarget (.ref P) (.str (S l) t) >>= fun t_1 => _) _ _ _
  refine wpAny_bind (wp_whole (s := { s with heap := h, toks := tk }) H' ?_)
  rw [if_neg (by decide)]
  rw [if_neg (by simp)]
  have hs : (S l).cps.size < 1000000 := by rw [S_size]; omega
  have hu := ends_U (text := (S l).cps) (pos := st) (by rw [S_size]; omega) hs false
  rw [cps_S] at hu
  refine wpAny_bind (m := reNextFound _ _ _) ?_
  unfold reNextFound
  dsimp only
  rw [Int.toNat_natCast]
  cases hq : searchU (l.drop st) with
  | none =>
    rw [hq] at hu
    obtain ⟨n', hn', r1⟩ := hu
    refine wp_end (n := n') (by rw [S_size] at hn'; omega) (.inr ⟨r1, ?_⟩)
    dsimp only
    have hun := unsl_none _ hq
    rw [hun] at hX
    by_cases hlt : st < l.length
    · rw [if_pos (by rw [S_size]; exact hlt)]
      refine wpAny_bind (wp_slice (by omega) ?_)
      refine wpAny_bind (wp_push hli (by simp [vals, strValues]; omega) fun h' hl' hs' => ?_)
      rw [vals_snoc] at hl'
      have ecut : cut l st (S l).cps.size = l.drop st := by
        unfold cut; rw [S_size]; exact List.take_of_length_le (by simp)
      refine wp_joinTail hl hl' (by simp; omega) (by
        intro p hp
        rcases List.mem_append.mp hp with hp | hp
        · exact hpl p hp
        · rw [List.mem_singleton.mp hp]
          exact Nat.le_trans (cut_len _ _ _) (by omega)) fun t' k' => ?_
      have e : ((ps ++ [(cut l st (S l).cps.size, tk)]).map (·.1)).flatten = X := by
        rw [ecut, List.map_append, List.flatten_append, ← hX]
        simp
      rw [e]
      exact hR t' h' k' fun b o e => hs'.extBut b o (fun q => by rw [q, hL] at e; cases e) (hg b o e)
    · rw [if_neg (by rw [S_size]; exact hlt)]
      refine wp_joinTail hl hli (by omega) hpl fun t' k' => ?_
      rw [List.drop_eq_nil_of_le (by omega), List.append_nil] at hX
      rw [hX]
      exact hR t' h k' hg
  | some o =>
    rw [hq] at hu
    obtain ⟨n', hn', r1, r2, r3, r4, r5, r6⟩ := hu
    obtain ⟨d, hd1, hd2, hd3⟩ := unsl_some _ _ hq
    rw [List.length_drop] at hd3
    rw [List.getElem?_drop] at hd1
    have fin : ∀ (ps' : List (List Nat × Tok)) (h₁ : Heap) (tk₁ : Nat), 0 < tk₁ → g.StaysIn h₁ → h₁.IsList LL (vals ps').toArray → ps'.length ≤ st + 1 → (∀ p ∈ ps', p.1.length ≤ 1000) → (ps'.map (·.1)).flatten ++ d :: unsl (l.drop (st + o + 2)) = X →
        wpAny (model prog w) A.in1 (do
          let found ← reNewMatch (.ref P) (.str (S l) t) 1 0 (S l).cps.size (M.runFor n' (forSearch cU (S l).cps 1 st (S l).cps.size false))
          let item ← holding [found] (if ((1 : Int) == 1) = true then call (.ref F) [found] else do
            let r ← reFound found
            reExpand (.ref F) r)
          if (item != Value.none) = true then do
            updateSeq LL fun x => x.push item
            again (Code.builtin "re.Pattern.sub.loop" ⟨[.ref P, .str (S l) t, .ref F, .int 1 0, .int 0 0, .int (n + 1) 0, .int ((M.runFor n' (forSearch cU (S l).cps 1 st (S l).cps.size false)).handed : Nat) 0, .int ((M.runFor n' (forSearch cU (S l).cps 1 st (S l).cps.size false)).handed : Nat) 0, .bool ((M.runFor n' (forSearch cU (S l).cps 1 st (S l).cps.size false)).handed == (M.runFor n' (forSearch cU (S l).cps 1 st (S l).cps.size false)).start), .ref LL, .bool false], []⟩)
          else
            again (Code.builtin "re.Pattern.sub.loop" ⟨[.ref P, .str (S l) t, .ref F, .int 1 0, .int 0 0, .int (n + 1) 0, .int ((M.runFor n' (forSearch cU (S l).cps 1 st (S l).cps.size false)).handed : Nat) 0, .int ((M.runFor n' (forSearch cU (S l).cps 1 st (S l).cps.size false)).handed : Nat) 0, .bool ((M.runFor n' (forSearch cU (S l).cps 1 st (S l).cps.size false)).handed == (M.runFor n' (forSearch cU (S l).cps 1 st (S l).cps.size false)).start), .ref LL, .bool false], []⟩))
          (fun fin s' => match fin with | .done f => R (.ok f) s' | .again c' => c'.quiet = true ∧ codeAny (model prog w) A c' R s') (fun e s' => R (.error e) s') { s with heap := h₁, toks := tk₁ } := by
      intro ps' h₁ tk₁ htk₁ hg₁ hli₁ hps₁ hpl₁ hX₁
      refine wpAny_with_toks (n := 1) htk₁ (wpAny_mono (E := fun e s' => R (.error e) s') (wp_subItem (n := n) (d := d) r2 r3 r4 r5 r6 (by omega) (beq_eq_false_iff_ne.mpr (by omega)) hli₁ (by simp [vals, strValues]; omega) ?_ (Q := fun fin s' => 1 ≤ s'.toks → match fin with | .done f => R (.ok f) s' | .again c' => c'.quiet = true ∧ codeAny (model prog w) A c' R s') fun t' h' tk' hl' hk' ht' => ?_) (fun _ _ x => x) fun _ _ x _ => x)
      · have hz : (S l).cps.size = l.length := S_size l
        have := hcall ((h₁.push (spanObj [((st + o : Nat) : Int), (st + o + 2 : Nat), (st + o + 1 : Nat), (st + o + 2 : Nat)])).push (matchObj (S l) t P 0 (S l).cps.size 1 h₁.objs.size)) tk₁ (h₁.objs.size + 1) h₁.objs.size (st + o) d htk₁
          (fun b x e => Heap.get?_push_of_some _ (Heap.get?_push_of_some _ (hg₁ b x e)))
          (by
            have e := Heap.get?_push_size (h₁.push (spanObj [((st + o : Nat) : Int), (st + o + 2 : Nat), (st + o + 1 : Nat), (st + o + 2 : Nat)])) (o := matchObj (S l) t P 0 (S l).cps.size 1 h₁.objs.size) rfl
            rw [Heap.size_push, hz] at e
            rw [hz]; exact e)
          (Heap.get?_push_of_some _ (Heap.get?_push_size _ rfl))
          (by rw [show st + o + 1 = st + (o + 1) by omega]; exact hd1) (by omega)
        exact this
      · refine ⟨plainId_quiet plain_subloop _, ?_⟩
        rw [vals_snoc] at hl'
        refine ih (l.length - (st + o + 2)) (by omega) (st + o + 2) (by omega) (ps' ++ [([d], t')]) (n + 1) h' tk' ht' (fun b x e => hk' b x (fun q => by rw [q, hL] at e; cases e) (hg₁ b x e)) hl' (by simp; omega) (by
          intro p hp
          rcases List.mem_append.mp hp with hp | hp
          · exact hpl₁ p hp
          · rw [List.mem_singleton.mp hp]; simp) ?_
        rw [← hX₁]; simp
    refine wp_end (n := n') (by rw [S_size] at hn'; omega) (.inl ⟨r1, ?_⟩)
    dsimp only
    have hX' : (ps.map (·.1)).flatten ++ ((l.drop st).take o ++ d :: unsl (l.drop (st + o + 2))) = X := by
      rw [← hX, hd2, List.drop_drop, show st + (o + 2) = st + o + 2 by omega]
    by_cases ho : 0 < o
    · rw [if_pos (by rw [r2]; omega)]
      refine wpAny_bind (wp_slice (by omega) ?_)
      refine wpAny_bind (wp_push hli (by simp [vals, strValues]; omega) fun h' hl' hs' => ?_)
      rw [vals_snoc] at hl'
      rw [if_neg (by decide)]
      have ecut : cut l st (M.runFor n' (forSearch cU (S l).cps 1 st (S l).cps.size false)).start = (l.drop st).take o := by
        rw [r2]; unfold cut; congr 1; omega
      rw [ecut] at hl'
      refine fin (ps ++ [((l.drop st).take o, tk)]) h' (tk + 1) (by omega) (fun b x e => hs'.extBut b x (fun q => by rw [q, hL] at e; cases e) (hg b x e)) hl' (by simp; omega) (by
        intro p hp
        rcases List.mem_append.mp hp with hp | hp
        · exact hpl p hp
        · rw [List.mem_singleton.mp hp]; simp; omega) ?_
      rw [← hX']; simp
    · have ho' : o = 0 := by omega
      subst ho'
      rw [if_neg (by rw [r2]; omega), if_neg (by decide)]
      refine fin ps h tk htk hg hli (by omega) hpl ?_
      rw [← hX']; simp
theorem notBytearray : isSubtype (.type "str") (.type "bytearray") = pure false := by rw [isSubtype_type]; kernel_rfl
theorem wp_notHeld {M₀ : Model} {A : Around} {E : Value → Shared → Prop} {s : Shared} {x : Str} {t : Tok} {id : String} {Q : Unit → Shared → Prop} (h : Q () s) : wpAny M₀ A (reNotHeld id (.str x t)) Q E s := by
  unfold reNotHeld
  refine wpAny_bind (wpAny_isInstance (typeIs_str s x t) notBytearray ?_)
  rw [if_neg Bool.false_ne_true]
  exact wpAny_pure h
theorem lookup_fcall : typeLookup (.type "function") "__call__" = pure (some (.builtin "function.__call__")) := by rw [typeLookup_type, builtinLookup_eq_fast]; kernel_rfl
theorem call_sub (H : PatAt s.heap P cU 1) (hF : s.TypeIs (.ref F) "function") (hl : l.length < 1000) (h0 : 0 < s.toks)
    (hcall : Repl prog w A.in1 E s s.heap P F l t)
    (hR : ∀ t' h' tk', s.heap.StaysIn h' → Q (.str (S (unsl l)) t') { s with heap := h', toks := tk' }) :
    wpAny (model prog w) A (call (.builtin "re.Pattern.sub") [.ref P, .ref F, .str (S l) t]) Q E s := by
  refine wpAny_call (codeAny_call_builtin plain_sub entry_psub (slot_psub.check _ _ _ _ _ _ _ _ H.typeIs (args_psub _ _ _) ?_))
  unfold Builtin.«re.Pattern.sub» reSubstitute
  dsimp only
  rw [namedS]
  refine wpAny_bind (wpAny_pure ?_)
  dsimp only
  refine wpAny_bind (wpAny_pure ?_)
  refine wpAny_bind (wpAny_specialOf hF lookup_fcall ?_)
  dsimp only [Option.isSome]
  refine wpAny_bind (wpAny_pure ?_)
  refine wpAny_bind (wpAny_pure ?_)
  dsimp only
  refine wpAny_bind (wpAny_holding (wp_whole H ?_))
  rw [if_pos (by decide)]
  refine wpAny_bind (wp_notHeld ?_)
  refine wpAny_bind (wpAny_newObj_type ?_ (by show (#[] : Array Value).size ≤ sizeLine; exact Nat.zero_le _))
  refine wpAny_pure ⟨plainId_quiet plain_subloop _, ?_⟩
  refine sub_loop (g := s.heap) (X := unsl l) H ?_ hl hcall (fun t' h' tk' hk => hR t' h' tk' hk) l.length 0 (by omega) [] 0 _ s.toks h0 (fun b o e => Heap.get?_push_of_some _ e) ⟨_, Heap.get?_push_size _ rfl, rfl, _, rfl⟩ (by simp) (by simp) (by simp)
  cases e : s.heap.get? s.heap.objs.size with
  | none => rfl
  | some o => exact absurd (Heap.lt_size e) (Nat.lt_irrefl _)
end
end RE
end Mine
end
section
open PySem PySem.W PyProof.Rows PySem.Calls PySem.Spec
set_option maxRecDepth 100000
namespace Mine
abbrev lamQual : Str := Str.ofString "unquote_header_value" ++ Str.ofString ".<locals>." ++ Str.ofString "<lambda>"
abbrev lamParams : Arguments := { posonlyargs := [], args := [{ arg := Str.ofString "_m", annotation := none, pos := ⟨17, 38, 17, 40⟩ }], vararg := none, kwonlyargs := [], kw_defaults := [], kwarg := none, defaults := [] }
abbrev lamBody : PySem.Expr := .BinOp (.Constant (.str (Str.ofString "")) 0 ⟨17, 42, 17, 44⟩) .Add
  (.BoolOp .Or [.Call (.Attribute (.Name (Str.ofString "_m") ⟨17, 48, 17, 50⟩) (Str.ofString "group") ⟨17, 48, 17, 56⟩) [.Constant (.int 1) 0 ⟨17, 57, 17, 58⟩] [] ⟨17, 48, 17, 59⟩, .Constant (.str (Str.ofString "")) 0 ⟨17, 63, 17, 65⟩] ⟨17, 48, 17, 65⟩) ⟨17, 42, 17, 66⟩
abbrev lamScope : Scope := { kind := .function, names := [(Str.ofString "_m", .local)], isGenerator := false, isCoroutine := false, more := [] }
def TabFull (h : Heap) : Prop := ∃ c', h.get? 44 = some (tabObj #[rawInt 17, rawInt 31, .ref c']) ∧ h.CodeRec (.ref c') lamQual
def TabSt (h : Heap) : Prop := h.get? 44 = some (tabObj #[]) ∨ TabFull h
theorem TabFull.keeps {h h' : Heap} (x : TabFull h) (k : ∀ b o, h.get? b = some o → h'.get? b = some o) : TabFull h' := let ⟨c', a, b⟩ := x; ⟨c', k _ _ a, b.keeps k⟩
theorem TabSt.some {h : Heap} (x : TabSt h) : ∃ ps, h.get? 44 = some (tabObj ps) := x.elim (fun e => ⟨_, e⟩) fun ⟨c', e, _⟩ => ⟨_, e⟩
/-- all but the code table at 44 stays; a filled table stays too -/
structure Grow (h h' : Heap) : Prop where
  but : ∀ b o, b ≠ 44 → h.get? b = some o → h'.get? b = some o
  tab : TabSt h'
  full : TabFull h → h.StaysIn h'
theorem Grow.of_stays {h h' : Heap} (t : TabSt h) (k : h.StaysIn h') : Grow h h' := ⟨fun b o _ e => k b o e, t.imp (fun e => k _ _ e) fun x => x.keeps k, fun _ => k⟩
theorem Grow.trans {h h' h'' : Heap} (x : Grow h h') (y : Grow h' h'') : Grow h h'' :=
  ⟨fun b o hb e => y.but b o hb (x.but b o hb e), y.tab, fun f b o e => y.full (f.keeps (x.full f)) b o (x.full f b o e)⟩
theorem Grow.keeps {h h' : Heap} (x : Grow h h') {g : Heap} (hg : g.get? 44 = none) (k : ∀ b o, g.get? b = some o → h.get? b = some o) : ∀ b o, g.get? b = some o → h'.get? b = some o :=
  fun b o e => x.but b o (fun q => by rw [q, hg] at e; cases e) (k b o e)
section
variable {M : Model} {A : Around} {E : Value → Shared → Prop} {s : Shared} {w : World} {mean : ExcName → Option Value} {mg mb : Str → Option Value} {g : Heap}
theorem ev_lam {env : Env} {Q : Value → Shared → Prop} (X : (hd.heap_39 w.params).In g) (T : Top topProg LO mean mg mb g) (hk : ∀ b o, g.get? b = some o → s.heap.get? b = some o) (tab : TabSt s.heap)
    (e1 : env.globals = mainGlobals) (e2 : env.code = .ref 48) (e3 : env.qual = Str.ofString "unquote_header_value" ++ Str.ofString ".<locals>.")
    (h : ∀ f c' pm ctv h' tk', Grow s.heap h' → TabFull h' → h'.get? f = some (kla_obj (Str.ofString "<lambda>") lamQual lamParams lamBody lamScope [] pm c' ctv) → h'.CodeRec (.ref c') lamQual → s.heap.objs.size ≤ f → Q (.ref f) { s with heap := h', toks := tk' }) :
    wpAny M A (eval (.Lambda lamParams lamBody lamScope ⟨17, 31, 17, 66⟩) env) Q E s := by
  have C : CodeHd s.heap 48 44 := (codeHd_of_K X (by kernel_rfl)).keeps hk
  have hgs := T.g.keeps hk
  obtain ⟨ps, hP⟩ := tab.some
  obtain ⟨bm, ob, b1, b2, b3, b4, b5, b6⟩ := T.bmain
  have hgP : mainGlobals ≠ 44 := by decide
  have hbP : bm ≠ 44 := fun q => by
    have e := hk _ _ b3
    rw [q, hP] at e; cases e; cases b4
  have hbG : bm ≠ mainGlobals := fun q => by
    obtain ⟨o, es, ep, e, hd, _⟩ := T.g
    rw [q, e] at b3; cases b3; rw [hd] at b6; cases b6
  refine kla_eval rfl ?_
  rw [e3]
  rcases tab with t0 | ⟨c', t1, t2⟩
  · refine kla_makeFunction (mg := mg) (clos := []) (ps := #[]) (P := 44) (c := 48) rfl e1 hgs e2 C t0 trivial rfl hgP ⟨bm, ob, b1, b2, hbG, hbP, hk _ _ b3, b4, b5, b6⟩ fun c' ctv h' tk hx hge hlt hrec htb => ?_
    have hfull : TabFull (h'.push (kla_obj (Str.ofString "<lambda>") lamQual lamParams lamBody lamScope [] ((mg "__name__").getD .none) c' ctv)) := ⟨c', Heap.get?_push_of_some _ htb, hrec.push _⟩
    refine h h'.objs.size c' ((mg "__name__").getD .none) ctv _ tk ⟨fun b o hb e => Heap.get?_push_of_some _ (hx b o hb e), .inr hfull, fun ⟨c, q, _⟩ => ?_⟩ hfull (Heap.get?_push_size _ rfl) (hrec.push _) (by omega)
    rw [t0] at q; cases q
  · refine kla_makeFunctionHit (mg := mg) (clos := []) (ps := #[rawInt 17, rawInt 31, .ref c']) (P := 44) (c := 48) (cv := .ref c') rfl e1 hgs e2 C t1 trivial rfl ⟨bm, ob, b1, b2, hbG, hbP, hk _ _ b3, b4, b5, b6⟩ fun ctv h' tk hx hsz => ?_
    have up : s.heap.StaysIn (h'.push (kla_obj (Str.ofString "<lambda>") lamQual lamParams lamBody lamScope [] ((mg "__name__").getD .none) c' ctv)) := fun b o e => Heap.get?_push_of_some _ (hx b o e)
    have hfull : TabFull (h'.push (kla_obj (Str.ofString "<lambda>") lamQual lamParams lamBody lamScope [] ((mg "__name__").getD .none) c' ctv)) := ⟨c', up _ _ t1, t2.keeps up⟩
    exact h h'.objs.size c' ((mg "__name__").getD .none) ctv _ tk (.of_stays (.inr ⟨c', t1, t2⟩) up) hfull (Heap.get?_push_size _ rfl) (t2.keeps up) hsz
end

open RE in
section
variable {M : Model} {A : Around} {E : Value → Shared → Prop} {s : Shared} {h₀ : Heap} {L D T P : Addr} {m : Str → Option Value} {news : List (Addr × Obj)} {l : List Nat} {t : Tok} {pos lim : Nat} {li : Int} {pl : Sem Bool} {Q : Value × List Value → Shared → Prop}
theorem getM_group (hD : s.heap.get? D = some (matchObj (S l) t P pos lim li T)) (h : Q (.builtin "re.Match.group", [.ref D]) s) : wpAny M A (getMethod (.ref D) (Str.ofString "group") pl) Q E s :=
  getMethod_builtin (typeIs_match hD) plainAttrs_match slot_group type_group (fun a e => by cases e; exact ⟨_, hD, rfl⟩) h
theorem getM_end (hD : s.heap.get? D = some (matchObj (S l) t P pos lim li T)) (h : Q (.builtin "re.Match.end", [.ref D]) s) : wpAny M A (getMethod (.ref D) (Str.ofString "end") pl) Q E s :=
  getMethod_builtin (typeIs_match hD) plainAttrs_match slot_mend type_mend (fun a e => by cases e; exact ⟨_, hD, rfl⟩) h
theorem getM_start (hD : s.heap.get? D = some (matchObj (S l) t P pos lim li T)) (h : Q (.builtin "re.Match.start", [.ref D]) s) : wpAny M A (getMethod (.ref D) (Str.ofString "start") pl) Q E s :=
  getMethod_builtin (typeIs_match hD) plainAttrs_match slot_mstart type_mstart (fun a e => by cases e; exact ⟨_, hD, rfl⟩) h
variable {code : Array Nat} {gr : Nat}
theorem getM_pmatch (H : PatAt s.heap P code gr) (h : Q (.builtin "re.Pattern.match", [.ref P]) s) : wpAny M A (getMethod (.ref P) (Str.ofString "match") pl) Q E s :=
  getMethod_builtin H.typeIs plainAttrs_pattern slot_pmatch type_pmatch H.noDict h
theorem getM_psearch (H : PatAt s.heap P code gr) (h : Q (.builtin "re.Pattern.search", [.ref P]) s) : wpAny M A (getMethod (.ref P) (Str.ofString "search") pl) Q E s :=
  getMethod_builtin H.typeIs plainAttrs_pattern slot_psearch type_psearch H.noDict h
theorem getM_psub (H : PatAt s.heap P code gr) (h : Q (.builtin "re.Pattern.sub", [.ref P]) s) : wpAny M A (getMethod (.ref P) (Str.ofString "sub") pl) Q E s :=
  getMethod_builtin H.typeIs plainAttrs_pattern slot_psub type_psub H.noDict h
end
section
variable {prog : Program} {w : World} {A A₀ : Around} {s : Shared} {K : Frag} {L : Addr} {h₀ base : Heap} {m mg mb : Str → Option Value} {p : Program} {loose : List Str} {mean : ExcName → Option Value}
theorem enter_lam {env : Env} {outer : List Env} {R : Result → Shared → Prop} {name qual : Str} {params : Arguments} {body : PySem.Expr} {scope : Scope} {cl : List (Str × Addr)} {pm ctv : Value} {c' : Addr} {f : Addr} {args : Args} {binds : List (Str × Value)}
    (B : Below A₀ base outer h₀) (F : Fr h₀ L s.heap m) (X₀ : K.In h₀) (T : Top p loose mean mg mb h₀) (hA : A.frames = some (env :: outer)) (hf : env.frame = some L) (hke : env.scope.kind = .function)
    (ho : s.heap.get? f = some (kla_obj name qual params body scope cl pm c' ctv)) (hcd : s.heap.CodeRec (.ref c') qual) (hroom : A.depth < recursionLimit)
    (hbind : bindArgs (kla_fn name qual params body scope cl pm (.ref c') ctv) args = pure binds) (hloc : ∀ y ∈ binds, scope.names.lookup y.1 = some .local)
    (h : ∀ g L' h₁, s.heap.StaysIn g → Fr h₀ L g m → Fr g L' h₁ (fun y => binds.reverse.lookup y) → News g L' h₁ [] → Below A base (env :: outer) g → K.In g → Top p loose mean mg mb g →
      wpAny (model prog w) (A.deeper (envX qual scope L' f (.ref c') cl)) (eval body (envX qual scope L' f (.ref c') cl))
        (fun v s' => LeaveK h₀ L m g R v s')
        (fun e s' => wpAny (model prog w) (A.deeper (envX qual scope L' f (.ref c') cl)) (leaving (envX qual scope L' f (.ref c') cl) e) (fun _ s'' => R (.error e) s'') (fun e' s'' => R (.error e') s'') s')
        { s with heap := h₁, toks := s.toks + binds.length })
    (hco : scope.isCoroutine = false) (hgen : scope.isGenerator = false) (hk : scope.kind = .function)
    (hcell : ∀ x ∈ scope.names, x.2 ≠ .cell) : codeAny (model prog w) A (.call (.ref f) args) R s := by
  have X := X₀.keeps F.keep
  obtain ⟨FG, BG, st, lv⟩ := groundX (R := R) B F (News.nil (h₀ := h₀) (L := L) (h := s.heap)) hA hf hke
  refine kla_callFunE hroom ho rfl hco hgen rfl hcd ?_
  rw [hbind]
  refine wpAny_pure (wpAny_newFunctionEnv hcell hloc (fun h₁ hns hsb => ⟨((T.nolimit).keeps F.keep).fresh _ hsb, ?_⟩) hk)
  show codeAny _ _ (.expr body (envX qual scope s.heap.objs.size f (.ref c') cl)) _ _
  have hk₁ : ∀ b o, s.heap.get? b = some o → h₁.get? b = some o := fun b o e => hsb.extBut b o (Nat.ne_of_lt (Heap.lt_size e)) (Heap.get?_push_of_some _ e)
  exact kla_codeExpr (wpAny_mono (h s.heap s.heap.objs.size h₁ (fun _ _ e => e) FG ⟨hns, hk₁, Nat.le_refl _⟩ News.nil BG X (T.keeps F.keep)) (fun v s' hl => lv _ _ hl) fun _ _ y => y)
end
end Mine
end
section
open PySem PySem.W PyProof.Rows PySem.Calls PySem.Spec
namespace Mine
open RE
local macro_rules | `(tactic| walk_at "getMethod ref") => `(tactic| (k_here; first
  | refine getM_group (Fr.keep (by assumption) _ _ (by assumption)) ?_
  | refine getM_group (News.get (by assumption) (by k_mem)) ?_))
theorem cut_one {l : List Nat} {a d : Nat} (h : l[a + 1]? = some d) : cut l (a + 1) (a + 2) = [d] := by
  unfold cut
  rw [show a + 2 - (a + 1) = 1 by omega]
  cases hd : l.drop (a + 1) with
  | nil =>
    have h' : (l.drop (a + 1))[0]? = some d := by rw [List.getElem?_drop]; exact h
    rw [hd] at h'; cases h'
  | cons x r =>
    have h' : (l.drop (a + 1))[0]? = some d := by rw [List.getElem?_drop]; exact h
    rw [hd] at h'
    have : x = d := by simpa using h'
    rw [this]; rfl
theorem call_group1d {prog : Program} {w : World} {A : Around} {E : Value → Shared → Prop} {s : Shared} {P D T : Addr} {l : List Nat} {t u : Tok} {Q : Value → Shared → Prop} {pos lim : Nat} {li : Int} {a d : Nat}
    (hD : s.heap.get? D = some (matchObj (S l) t P pos lim li T)) (hT : s.heap.get? T = some (spanObj [(a : Int), (a + 2 : Nat), (a + 1 : Nat), (a + 2 : Nat)])) (hl : l.length < 1000) (hd1 : l[a + 1]? = some d)
    (h : Q (.str (S [d]) s.toks) { s with toks := s.toks + 1 }) : wpAny (model prog w) A (call (.builtin "re.Match.group") [.ref D, .int 1 u]) Q E s :=
  call_group1 (a := a + 1) (b := a + 2) hD hT (by omega) (by simp) rfl rfl (by rw [cut_one hd1]; exact h)
local macro_rules | `(tactic| walk_at "call builtin:re.Match.group") => `(tactic| (k_here; (try dsimp only [List.cons_append, List.nil_append]); refine call_group1d (Fr.keep (by assumption) _ _ (by assumption)) (Fr.keep (by assumption) _ _ (by assumption)) (by assumption) (by assumption) ?_))
theorem fillK1Unq2 : PySem.Challenge.rw_vm0023_01 = PySem.Challenge.rw_vm0023_01 ∧ hd.heap_39 = hd.heap_39 := by
  k_fill
  exact ⟨rfl, rfl⟩
def LamPost (s : Shared) (h : Heap) (d : Nat) (v : Value) (s'' : Shared) : Prop := ∃ t' h' tk', v = .str (S [d]) t' ∧ s'' = { s with heap := h', toks := tk' } ∧ h.StaysIn h'
set_option maxRecDepth 100000 in
set_option maxHeartbeats 8000000 in
theorem lam_repl (w : World) (mean : ExcName → Option Value) (mg mb : Str → Option Value) (l : List Nat) (t : Tok) (hl : l.length < 1000)
   (A : Around) (cn : Str) (cs : Scope) (a₀ : Addr) (ccd : Value) (cl : List (Str × Addr)) (outer : List Env) (A₀ : Around) (base h₀ : Heap) (L : Addr) (m : Str → Option Value) (s : Shared) (E : Value → Shared → Prop) (f c' : Addr) (pm ctv : Value)
    (dp un : Nat) (gd : Option (List Code))
    (B : Below A₀ base outer h₀) (F : Fr h₀ L s.heap m) (X : (hd.heap_39 w.params).In h₀) (T : Top topProg LO mean mg mb h₀) (hk : cs.kind = .function) (hdp : dp + 1 < recursionLimit) (hu : un + 8 < cLine)
    (ho : s.heap.get? f = some (kla_obj (Str.ofString "<lambda>") lamQual lamParams lamBody lamScope [] pm c' ctv)) (hcd : s.heap.CodeRec (.ref c') lamQual) :
    Repl PG w (ktrTop dp un gd cn cs L a₀ ccd cl outer) E s s.heap 42 f l t := by
  intro h tk D Tt a d htk hst hD hTt hd1 hd2
  show wpAny _ _ _ (LamPost s h d) _ _
  have F' := F.keeps hst
  refine wpAny_call ?_
  refine enter_lam (s := { s with heap := h, toks := tk }) (args := ⟨[.ref D], []⟩) (binds := [(Str.ofString "_m", .ref D)]) B F' X T rfl rfl hk (hst _ _ ho) (hcd.keeps hst) (by show dp < _; omega) rfl (locs rfl) ?_ rfl rfl rfl (by decide)
  intro g' L' h' hsg' FG' F' N' B' X' T'
  have hDg := hsg' _ _ hD
  have hTg := hsg' _ _ hTt
  have hS1 : (S [d]).length = 1 := rfl
  dsimp only
  k_steps
  · exact ⟨_, _, _, str_eq (by show S [] ++ S [d] = S [d]; rw [S_app]; rfl), rfl, stays_end hsg' (by assumption)⟩
  · exfalso; omega
end Mine
end
section
open PySem PySem.W PyProof.Rows PySem.Calls PySem.Spec PySem.Builtin PySem.Builtin.Str
namespace Mine
theorem subAt_S (l k : List Nat) (i : Nat) : subAt (S l) (S k) i = ((l.drop i).take k.length == k) := by
  unfold subAt
  rw [S_len]
  have : (S l).cps.extract i (i + k.length) = ((l.drop i).take k.length).toArray := by
    apply Array.toList_inj.mp
    simp [S, Array.toList_extract, List.extract]
  rw [this]
  show (((l.drop i).take k.length).toArray == k.toArray) = _
  rw [Bool.eq_iff_iff]; simp
theorem starts_S (l k : List Nat) : Txt.startswith (S l) (S k) = (l.take k.length == k) := by
  unfold Txt.startswith
  rw [subAt_S, S_len, S_len]
  by_cases h : k.length ≤ l.length
  · simp [h]
  · have : ¬ l.take k.length = k := fun e => by
      have := congrArg List.length e
      simp at this; omega
    simp [h, this]
theorem ends_S (l k : List Nat) (h : k.length ≤ l.length) : Txt.endswith (S l) (S k) = (l.drop (l.length - k.length) == k) := by
  unfold Txt.endswith
  rw [subAt_S, S_len, S_len]
  have : (l.drop (l.length - k.length)).take k.length = l.drop (l.length - k.length) := List.take_of_length_le (by simp; omega)
  rw [this]; simp [h]
theorem slice_S {l : List Nat} {a b : Nat} (h : a ≤ b) (hb : b ≤ l.length) : Txt.slice (S l) (some (a : Int)) (some (b : Int)) = S ((l.drop a).take (b - a)) := by
  show StrLaws.sliceText (S l) (some (a : Int)) (some (b : Int)) = _
  rw [StrLaws.sliceText_plain (by rw [cps_S]; omega), cps_S]
  show S _ = _
  congr 2; omega
theorem slice_in {l : List Nat} (h : 2 ≤ l.length) : Txt.slice (S l) (some 1) (some (-1)) = S ((l.drop 1).take (l.length - 2)) := by
  have e : strSliceIndices (some 1) (some (-1)) 1 l.length = strSliceIndices (some ((1 : Nat) : Int)) (some ((l.length - 1 : Nat) : Int)) 1 l.length := by
    unfold strSliceIndices
    simp only [show (1 : Int) > 0 by decide, if_true, show (-1 : Int) < 0 by decide]
    congr 1
    rw [if_neg (by omega)]
    omega
  have := slice_S (l := l) (a := 1) (b := l.length - 1) (by omega) (by omega)
  unfold Txt.slice at this ⊢
  rw [S_len] at this ⊢
  rw [e]
  rw [this]
  congr 2
/-- what unquote_header_value gives -/
def unq (v : List Nat) : List Nat := if 2 ≤ v.length ∧ v.take 1 = [34] ∧ v.drop (v.length - 1) = [34] then unsl ((v.drop 1).take (v.length - 2)) else v
theorem q34 : Str.ofString "\"" = S [34] := by decide +kernel
theorem unq_yes {v : List Nat} (h : (2 : Int) ≤ ((S v).length : Nat)) (h1 : Txt.startswith (S v) (Str.ofString "\"") = true) (h2 : Txt.endswith (S v) (Str.ofString "\"") = true) : 2 ≤ v.length ∧ unq v = unsl ((v.drop 1).take (v.length - 2)) := by
  rw [S_len] at h
  rw [q34, starts_S] at h1
  rw [q34, ends_S _ _ (by simp; omega)] at h2
  refine ⟨by omega, if_pos ⟨by omega, by simpa using h1, by simpa using h2⟩⟩
theorem unq_no1 {v : List Nat} (h : ¬ (2 : Int) ≤ ((S v).length : Nat)) : unq v = v := by
  rw [S_len] at h
  exact if_neg fun x => by omega
theorem unq_no2 {v : List Nat} (h1 : Txt.startswith (S v) (Str.ofString "\"") = false) : unq v = v := by
  rw [q34, starts_S] at h1
  exact if_neg fun x => by rw [show [34].length = 1 from rfl, x.2.1] at h1; simp at h1
theorem unq_no3 {v : List Nat} (h : (2 : Int) ≤ ((S v).length : Nat)) (h2 : Txt.endswith (S v) (Str.ofString "\"") = false) : unq v = v := by
  rw [S_len] at h
  rw [q34, ends_S _ _ (by simp; omega)] at h2
  exact if_neg fun x => by rw [show [34].length = 1 from rfl, x.2.2] at h2; simp at h2
/-- v is read as quoted -/
def isQ (v : List Nat) : Prop := 2 ≤ v.length ∧ v.take 1 = [34] ∧ v.drop (v.length - 1) = [34]
theorem isQ_no1 {v : List Nat} (h : ¬ (2 : Int) ≤ ((S v).length : Nat)) : ¬ isQ v := by
  rw [S_len] at h
  exact fun x => by have := x.1; omega
theorem isQ_no2 {v : List Nat} (h1 : Txt.startswith (S v) (Str.ofString "\"") = false) : ¬ isQ v := by
  rw [q34, starts_S] at h1
  exact fun x => by rw [show [34].length = 1 from rfl, x.2.1] at h1; simp at h1
theorem isQ_no3 {v : List Nat} (h : (2 : Int) ≤ ((S v).length : Nat)) (h2 : Txt.endswith (S v) (Str.ofString "\"") = false) : ¬ isQ v := by
  rw [S_len] at h
  rw [q34, ends_S _ _ (by simp; omega)] at h2
  exact fun x => by rw [show [34].length = 1 from rfl, x.2.2] at h2; simp at h2
theorem slice_ss_stays {prog : Program} {w : World} {A : Around} {E : Value → Shared → Prop} {s : Shared} {value slice : PySem.Expr} {x : Str} {t : Tok} {i j : Int} {ui uj : Tok} {Q : Value → Shared → Prop}
    (h0 : 0 < s.toks) (h : ∀ h' t' k, 0 < k → s.heap.StaysIn h' → Q (.str (Txt.slice x (some i) (some j)) t') { s with heap := h', toks := k })
    (hs : subscripted slice false (.str x t) (.ref s.heap.objs.size) = operate [.ref s.heap.objs.size, .str x t] (getItem (.str x t) (.ref s.heap.objs.size)) := by with_unfolding_all rfl)
    (ht : ∀ r, letTemporaryGo value (.str x t) r = pure () := by intro _; with_unfolding_all rfl) (hsz : x.length ≤ sizeLine := by size_fits) :
    wpAny (model prog w) A (subscriptTail value slice (.str x t) (.ref s.heap.objs.size)) Q E { s with heap := s.heap.push { cls := .type "slice", data := .fields #[.int i ui, .int j uj, .none] } } :=
  wpAny_with_toks (n := 1) h0 (wpAny_mono (tail_of_ItemOn (Q := fun a s' => 1 ≤ s'.toks → Q a s') (SBH.sliceItem_ss (P := fun h => s.heap.StaysIn h) (fun _ ob k b o e => Heap.get?_push_of_some ob (k b o e)) (fun _ _ e => e) (fun h' t' k a b => h h' t' k b a) hsz) hs ht) (fun _ _ x => x) (fun _ _ x _ => x))
/-- strip(' \t') -/
def bl (c : Nat) : Bool := c == 32 || c == 9
def strip2 (l : List Nat) : List Nat := ((l.dropWhile bl).reverse.dropWhile bl).reverse
theorem drop_takeWhile (p : Nat → Bool) : ∀ l : List Nat, l.drop (l.takeWhile p).length = l.dropWhile p
  | [] => rfl
  | c :: r => by
    by_cases h : p c = true
    · simp [List.takeWhile_cons, List.dropWhile_cons, h, drop_takeWhile p r]
    · simp [List.takeWhile_cons, List.dropWhile_cons, h]
theorem takeWhile_le (p : Nat → Bool) : ∀ l : List Nat, (l.takeWhile p).length ≤ l.length
  | [] => Nat.le_refl _
  | c :: r => by
    have := takeWhile_le p r
    by_cases h : p c = true
    · simp [List.takeWhile_cons, h]; omega
    · simp [List.takeWhile_cons, h]
theorem strip_S (l : List Nat) : Txt.stripChars (S l) (Str.ofString " \t") = S (strip2 l) := by
  unfold Txt.stripChars
  have e : (Str.ofString " \t").cps.contains = bl := by
    funext c
    rw [show Str.ofString " \t" = S [32, 9] by decide +kernel, Bool.eq_iff_iff]
    simp [S, bl]
  rw [e, W.stripBy_eq]
  refine eq_S ?_
  unfold W.stripped
  simp only [if_true, cps_S, S_len]
  rw [drop_takeWhile]
  show ((S l).cps.extract (l.takeWhile bl).length _).toList = _
  rw [Array.toList_extract, cps_S]
  unfold List.extract
  rw [drop_takeWhile]
  have h1 : (l.dropWhile bl).length = l.length - (l.takeWhile bl).length := by rw [← drop_takeWhile, List.length_drop]
  have h2 := takeWhile_le bl (l.dropWhile bl).reverse
  rw [List.length_reverse] at h2
  unfold strip2
  rw [← drop_takeWhile bl (l.dropWhile bl).reverse, List.reverse_drop, List.reverse_reverse, List.length_reverse]
  congr 1
  omega
theorem strip2_len (l : List Nat) : (strip2 l).length ≤ l.length := by
  unfold strip2
  rw [List.length_reverse, ← drop_takeWhile, List.length_drop, List.length_reverse, ← drop_takeWhile, List.length_drop]
  omega
end Mine
end
section
open PySem PySem.W PyProof.Rows PySem.Calls PySem.Spec
namespace Mine
open RE
section
variable {prog : Program} {w : World} {A A₀ : Around} {E : Value → Shared → Prop} {s : Shared} {K : Frag} {L : Addr} {h₀ base : Heap} {m mg mb : Str → Option Value} {p : Program} {loose : List Str} {mean : ExcName → Option Value}
theorem enter_any {env : Env} {outer : List Env} {R : Result → Shared → Prop} {name qual : Str} {params : Arguments} {body : List Stmt} {scope : Scope} {dV kV doc pm cdv ct oc : Value} {an od : Option Addr} {osl : Array (Option Value)} {f : Addr} {args : Args} {binds : List (Str × Value)}
    (B : Below A₀ base outer h₀) (F : Fr h₀ L s.heap m) (X₀ : K.In h₀) (T : Top p loose mean mg mb h₀) (hA : A.frames = some (env :: outer)) (hf : env.frame = some L) (hke : env.scope.kind = .function)
    (ho : K.lookup f = some ⟨oc, od, .func (fnOf name qual params body scope dV kV doc pm an cdv ct), osl⟩) (hcd : codeIn K cdv qual = true) (hroom : A.depth < recursionLimit)
    (hbind : BindsTo s (fnOf name qual params body scope dV kV doc pm an cdv ct) args binds) (hloc : ∀ y ∈ binds, scope.names.lookup y.1 = some .local)
    (tab : TabFull s.heap ∨ (s.heap.get? 44 = some (tabObj #[]) ∧ h₀.get? 44 = none))
    (hne : ∃ p r, binds = p :: r) (h : ∀ g L' h₁ tk, 0 < tk → s.heap.StaysIn h₁ → (g.get? 44 = none ∨ TabFull g) → Fr h₀ L g m → Fr g L' h₁ (fun y => binds.reverse.lookup y) → News g L' h₁ [] → Below A base (env :: outer) g → K.In g → Top p loose mean mg mb g →
      wpAny (model prog w) (A.deeper (envOf qual scope L' f cdv)) (execs body (envOf qual scope L' f cdv))
        (fun fl s' => LeaveK h₀ L m g R (match fl with | .ret v => v | _ => .none) s')
        (fun e s' => wpAny (model prog w) (A.deeper (envOf qual scope L' f cdv)) (leaving (envOf qual scope L' f cdv) e) (fun _ s'' => R (.error e) s'') (fun e' s'' => R (.error e') s'') s')
        { s with heap := h₁, toks := tk })
    (hco : scope.isCoroutine = false) (hgen : scope.isGenerator = false) (hk : scope.kind = .function)
    (hcell : ∀ x ∈ scope.names, x.2 ≠ .cell) : codeAny (model prog w) A (.call (.ref f) args) R s := by
  rcases tab with tf | ⟨t0, tn⟩
  · exact enter_plain B F X₀ T hA hf hke ho hcd hroom hbind hloc hne (fun g L' h₁ tk htk hst FG F' N' B' X' T' => h g L' h₁ tk htk (fun b o e => F'.keep b o (hst b o e)) (.inr (tf.keeps hst)) FG F' N' B' X' T') hco hgen hk hcell
  · have X := X₀.keeps F.keep
    have N : News h₀ L s.heap [(44, tabObj #[])] := fun q hq => by
      rw [List.mem_singleton.mp hq]
      refine ⟨t0, fun e => ?_, tn⟩
      obtain ⟨oL, es, ep, hL, hLd, _⟩ := F.ns
      rw [← e] at hL
      rw [t0] at hL; cases hL; cases hLd
    obtain ⟨FG, BG, st, lv⟩ := groundX (R := R) B F N hA hf hke
    refine codeAny_call_def (fd := fnOf name qual params body scope dV kV doc pm an cdv ct) (body := body) (binds := binds) hroom (X _ _ ho) rfl (T.nolimit.keeps F.keep) (codeRec_of X hcd) rfl hbind hcell hloc (fun h₁ hns hk₁ => ?_) hco hgen hk
    exact wpAny_mono (h (hideAll s.heap [44]) s.heap.objs.size h₁ _ (by obtain ⟨p, r, e⟩ := hne; show 0 < s.toks + binds.length; rw [e, List.length_cons]; omega) hk₁ (.inl (hideAll_none _ (.head _))) FG ⟨hns, fun b o e => hk₁ b o (of_hideAll _ e), Nat.le_of_eq (hideAll_size _ _)⟩ News.nil BG (X₀.keeps st) (T.keeps st)) (fun fl s' hl => lv _ _ hl) fun _ _ y => y
end
theorem grow_keeps {g h h' : Heap} (hg : g.get? 44 = none ∨ TabFull g) (k : ∀ b o, g.get? b = some o → h.get? b = some o) (G : Grow h h') : ∀ b o, g.get? b = some o → h'.get? b = some o := by
  rcases hg with hg | hg
  · exact G.keeps hg k
  · exact fun b o e => G.full (hg.keeps k) b o (k b o e)
theorem ns_ne {h : Heap} {L : Addr} {m : Str → Option Value} (x : h.Ns L m) (t : TabSt h) : L ≠ 44 := fun e => by
  obtain ⟨oL, es, ep, hL, hLd, _⟩ := x
  obtain ⟨ps, hP⟩ := t.some
  rw [e, hP] at hL; cases hL; cases hLd
theorem fr_grow {g h h' : Heap} {L : Addr} {m : Str → Option Value} (F : Fr g L h m) (hg : g.get? 44 = none ∨ TabFull g) (t : TabSt h) (G : Grow h h') : Fr g L h' m :=
  ⟨F.ns.at' fun o e => G.but _ _ (ns_ne F.ns t) e, grow_keeps hg F.keep G, F.above⟩

/-- a call of unquote_header_value, the code table empty or filled -/
def UnqCon (w : World) (mean : ExcName → Option Value) (mg mb : Str → Option Value) (v : List Nat) (tv : Tok) (r : List Nat) (q : Prop) : Prop :=
  ∀ (dp un : Nat) (gd : Option (List Code)) (cn : Str) (cs : Scope) (a : Addr) (ccd : Value) (cl : List (Str × Addr)) (outer : List Env) (A₀ : Around) (base h₀ : Heap) (L : Addr) (m : Str → Option Value) (s : Shared) (Q E : Value → Shared → Prop),
    Below A₀ base outer h₀ → Fr h₀ L s.heap m → (hd.heap_39 w.params).In h₀ → Top topProg LO mean mg mb h₀ → (TabFull s.heap ∨ (s.heap.get? 44 = some (tabObj #[]) ∧ h₀.get? 44 = none)) → cs.kind = .function → dp + 2 < recursionLimit → un + 16 < cLine →
    (∀ t h' tk', Grow s.heap h' → (q → TabFull h') → Q (.str (S r) t) { s with heap := h', toks := tk' }) →
    wpAny (model PG w) (ktrTop dp un gd cn cs L a ccd cl outer) (call (.ref 49) [.str (S v) tv]) Q E s
local macro_rules | `(tactic| walk_at "my enterA") => `(tactic| k_dflt (refine' enter_any ?k1 ?k2 ?k3 ?k5 ?kA ?kF ?kK ?k6 ?k7 ?k8 ?k9 ?kB ?kT ?kL ?_ ?c2 ?c3 ?c4 ?c5; (case kA => exact rfl); (case kF => exact rfl); (case kK => assumption); (case k1 => k_asm); (case k2 => k_asm); (case k3 => k_asm); (case k5 => k_asm); (case k6 => k_is); (case k7 => k_is); (case k8 => ktr_room); (case k9 => exact BindsTo.of_eq rfl); (case c5 => decide); (case kB => exact locs rfl); (case kT => assumption); (case kL => exact ⟨_, _, rfl⟩); (case c2 => exact rfl); (case c3 => exact rfl); (case c4 => exact rfl); k_whole; intro g' L' h' tk' htk' hst' hg' FG' F' N' B' X' T'; (try dsimp only); (try k_lift B'); (try k_fold)))
local macro_rules | `(tactic| walk_at "execs cons") => `(tactic| (k_here; (with_reducible refine execs_cons_tk (by first | assumption | (dsimp only; omega)) ?_); try dsimp only))
local macro_rules | `(tactic| walk_at "execs nil") => `(tactic| (k_here; (with_reducible refine wpAny_execs_nil ?_); try dsimp only))
theorem fillK2 : PySem.Challenge.rw_vm0023_01 = PySem.Challenge.rw_vm0023_01 ∧ hd.heap_39 = hd.heap_39 := by
  k_fill
  exact ⟨rfl, rfl⟩
theorem patOf {K : Frag} {g : Heap} (X : K.In g) {P T : Addr} {pat flags : Value} {groups : Nat} {code : Array Nat} (h1 : K.lookup P = some { cls := .type "re.Pattern", data := .fields #[pat, flags, .int groups 0, .none, .none, .ref T, .int 0 0] })
    (h2 : K.lookup T = some { cls := .type "tuple", data := .seq (code.map fun (n : Nat) => Value.int (n : Int) 0) }) : PatAt g P code groups :=
  ⟨_, _, _, _, _, _, X _ _ h1, rfl, rfl, rfl, X _ _ h2, rfl⟩
theorem patU {w : World} {g : Heap} (X : (hd.heap_39 w.params).In g) : PatAt g 42 cU 1 := patOf X (T := 41) (pat := .str (Str.ofString "\\\\(.)") 293) (flags := .int 256 313) (by kernel_rfl) (by kernel_rfl)
theorem patK {w : World} {g : Heap} (X : (hd.heap_39 w.params).In g) : PatAt g 78 cK 1 := patOf X (T := 77) (pat := .str (Str.ofString "([\\w!#$%&'*+\\-.^`|~]+)=") 357) (flags := .int 256 391) (by kernel_rfl) (by kernel_rfl)
theorem patM {w : World} {g : Heap} (X : (hd.heap_39 w.params).In g) : PatAt g 83 cM 2 := patOf X (T := 82) (pat := .str (Str.ofString "(?:\\*(\\d+))?(\\*)?$") 394) (flags := .int 256 437) (by kernel_rfl) (by kernel_rfl)
theorem patT {w : World} {g : Heap} (X : (hd.heap_39 w.params).In g) : PatAt g 88 cT 0 := patOf X (T := 87) (pat := .str (Str.ofString "[\\w!#$%&'*+\\-.^`|~]+") 440) (flags := .int 256 468) (by kernel_rfl) (by kernel_rfl)
theorem patD {w : World} {g : Heap} (X : (hd.heap_39 w.params).In g) : PatAt g 93 cD 0 := patOf X (T := 92) (pat := .str (Str.ofString ";[ \\t]*") 471) (flags := .int 32 498) (by kernel_rfl) (by kernel_rfl)
theorem tab_of {s : Shared} {h₁ h₀ : Heap} (t : TabFull s.heap ∨ (s.heap.get? 44 = some (tabObj #[]) ∧ h₀.get? 44 = none)) (k : s.heap.StaysIn h₁) : TabSt h₁ := t.elim (fun x => .inr (x.keeps k)) fun x => .inl (k _ _ x.1)
local macro_rules | `(tactic| walk_at "getMethod ref") => `(tactic| (k_here; refine getM_psub ((patU (by assumption)).keeps (Fr.keep (by assumption))) ?_))
local macro_rules | `(tactic| walk_at "eval Lambda") => `(tactic| (k_here; refine ev_lam (by assumption) (by assumption) (Fr.keep (by assumption)) (tab_of (by assumption) (by assumption)) rfl rfl rfl ?_; intro f' c' pm' ctv' h1' tk1' G' TF' ho' hcd' hge'; (try dsimp only at ho' hcd' G'); have F1' := fr_grow (by assumption) (by assumption) (tab_of (by assumption) (by assumption)) G'; (try dsimp only)))
local macro_rules | `(tactic| walk_at "subscriptTail Name Slice str ref") => `(tactic| (k_here; (refine slice_ss_stays (hsz := ?hsz) (s := ⟨_, _, _, _, _⟩) (by dsimp only; omega) ?_); (case hsz => size_fits); intro h2' t2' k2' hk2' hs2'; (try dsimp only at hs2'); have F2' := fr_stays (by assumption) hs2'; (try dsimp only)))
theorem fn_type {s : Shared} {f c' : Addr} {pm ctv : Value} (ho : s.heap.get? f = some (kla_obj (Str.ofString "<lambda>") lamQual lamParams lamBody lamScope [] pm c' ctv)) : s.TypeIs (.ref f) "function" := ⟨_, ho, rfl⟩
theorem sub_unq {w : World} {x : Str} {mean : ExcName → Option Value} {mg mb : Str → Option Value} {l : List Nat} {t : Tok} (hx : x = S l) (hl : l.length < 1000) {A : Around}
    {cn : Str} {cs : Scope} {a₀ : Addr} {ccd : Value} {cl : List (Str × Addr)} {outer : List Env} {A₀ : Around} {base h₀ : Heap} {L : Addr} {m : Str → Option Value} {s : Shared} {Q E : Value → Shared → Prop} {f c' : Addr} {pm ctv : Value}
    {dp un : Nat} {gd : Option (List Code)} (hA : A.in1 = ktrTop dp un gd cn cs L a₀ ccd cl outer) (t0 : 0 < s.toks)
    (B : Below A₀ base outer h₀) (F : Fr h₀ L s.heap m) (X : (hd.heap_39 w.params).In h₀) (T : Top topProg LO mean mg mb h₀) (hk : cs.kind = .function) (hdp : dp + 1 < recursionLimit) (hu : un + 8 < cLine)
    (ho : s.heap.get? f = some (kla_obj (Str.ofString "<lambda>") lamQual lamParams lamBody lamScope [] pm c' ctv)) (hcd : s.heap.CodeRec (.ref c') lamQual)
    (h : ∀ t' h' tk', s.heap.StaysIn h' → Fr h₀ L h' m → Q (.str (S (unsl l)) t') { s with heap := h', toks := tk' }) :
    wpAny (model PG w) A (call (.builtin "re.Pattern.sub") [.ref 42, .ref f, .str x t]) Q E s :=
  hx ▸ call_sub ((patU X).keeps F.keep) (fn_type ho) hl t0 (by rw [hA]; exact lam_repl w mean mg mb l t hl A cn cs a₀ ccd cl outer A₀ base h₀ L m s E f c' pm ctv dp un gd B F X T hk hdp hu ho hcd) fun t' h' tk' a => h t' h' tk' a (fr_stays F a)
local macro_rules | `(tactic| walk_at "call builtin:re.Pattern.sub") => `(tactic| (k_here; (try dsimp only [List.cons_append, List.nil_append]); have hun' := unq_yes (by assumption) (by assumption) (by assumption); k_dflt (refine' sub_unq (s := ⟨_, _, _, _, _⟩) (slice_in hun'.1) ?a1 ?a2 ?a3 ?a4 ?a5 ?a6 ?a7 ?a8 ?a9 ?a10 ?a11 ?a12 ?a13); (case a1 => have := hun'.1; simp; omega); (case a2 => rfl); (case a4 => assumption); (case a5 => assumption); (case a6 => assumption); (case a7 => assumption); (case a8 => rfl); (case a9 => ktr_room); (case a10 => dsimp only [Around.deeper, ktrTop]; omega); (case a3 => omega); (case a11 => exact (by assumption : Heap.StaysIn _ _) _ _ (by assumption)); (case a12 => exact Heap.CodeRec.keeps (by assumption) (by assumption)); intro t3' h3' tk3' hs3' F3'; (try dsimp only at hs3')))
theorem qstr {Q : Value → Shared → Prop} {a b : List Nat} {t : Tok} {s : Shared} (e : a = b) (h : Q (.str (S a) t) s) : Q (.str (S b) t) s := e ▸ h
set_option maxRecDepth 100000 in
set_option maxHeartbeats 8000000 in
theorem con_unq (w : World) (mean : ExcName → Option Value) (mg mb : Str → Option Value) (v : List Nat) (tv : Tok) (hv : v.length ≤ 500) : UnqCon w mean mg mb v tv (unq v) (isQ v) := by
  intro dp un gd cn cs a ccd cl outer A₀ base h₀ L m s Q E B F X T htab hk hdp hu ret
  have hS : (S v).length ≤ 500 := by rw [S_len]; exact hv
  refine wpAny_call ?_
  walk_at "my enterA"
  k_steps
  · rename_i f' c' pm' ctv' h1' tk1' G' TF' ho' hcd' hge' F1' h2' t2' k2' hk2' hs2' F2' hun' t3' h3' tk3' hs3' F3'
    have G3 : Grow s.heap h3' := (Grow.of_stays (tab_of htab fun _ _ e => e) (by assumption)).trans (G'.trans (Grow.of_stays (.inr TF') (fun b o e => hs3' b o (hs2' b o e))))
    refine leaveK_ F3' News.nil fun FF _ => ?_
    exact qstr hun'.2 (ret _ _ _ G3 fun _ => (TF'.keeps hs2').keeps hs3')
  · exact qstr (unq_no3 (by assumption) (by assumption)) (ret _ _ _ (Grow.of_stays (tab_of htab fun _ _ e => e) (by assumption)) fun q => absurd q (isQ_no3 (by assumption) (by assumption)))
  · exact qstr (unq_no2 (by assumption)) (ret _ _ _ (Grow.of_stays (tab_of htab fun _ _ e => e) (by assumption)) fun q => absurd q (isQ_no2 (by assumption)))
  · exact qstr (unq_no1 (by assumption)) (ret _ _ _ (Grow.of_stays (tab_of htab fun _ _ e => e) (by assumption)) fun q => absurd q (isQ_no1 (by assumption)))
theorem con_unqC (w : World) (mean : ExcName → Option Value) (mg mb : Str → Option Value) (v : List Nat) (tv : Tok) (hv : v.length ≤ 500) :
    Con w mean mg mb 2 TabFull 49 [.str (S v) tv] [] (fun _ _ r => ∃ t, r = .str (S (unq v)) t) := by
  intro dp un gd cn cs a ccd cl outer A₀ base h₀ L m s Q E B F X T hp hk hdp hu ret
  exact con_unq w mean mg mb v tv hv dp un gd cn cs a ccd cl outer A₀ base h₀ L m s Q E B F X T (.inl hp) hk hdp (by omega) fun t h' tk' G _ => ret _ _ _ (G.full hp) ⟨t, rfl⟩
end Mine
end
section
open PySem PySem.W PyProof.Rows PySem.Calls PySem.Spec
namespace Mine
open LCg LCt
theorem strs_get : ∀ {l : List Value} {ys : List Str} {i : Nat} {v : Value}, StrsAre l ys → l[i]? = some v → ∃ y t, ys[i]? = some y ∧ v = .str y t
  | _, _, 0, v, .cons y t _, h => ⟨y, t, rfl, by simpa using h.symm⟩
  | _, _, i + 1, v, .cons y t r, h => by
    obtain ⟨y', t', h1, h2⟩ := strs_get (i := i) r (by simpa using h)
    exact ⟨y', t', by simpa using h1, h2⟩
  | _, _, i, v, .nil, h => by simp at h
theorem strs_getS {its : Array Value} {ws : List (List Nat)} {i : Nat} {v : Value} (h : StrsAre its.toList (ws.map S)) (e : its[i]? = some v) : ∃ wd t, ws[i]? = some wd ∧ v = .str (S wd) t := by
  obtain ⟨y, t, h1, rfl⟩ := strs_get (i := i) h (by rw [← e]; simp)
  rw [List.getElem?_map] at h1
  cases hw : ws[i]? with
  | none => rw [hw] at h1; cases h1
  | some wd => rw [hw] at h1; exact ⟨wd, t, rfl, by rw [← Option.some.inj h1]⟩
theorem strs_szS {its : Array Value} {ws : List (List Nat)} (h : StrsAre its.toList (ws.map S)) : its.size = ws.length := by
  have := StrsAre.len_eq h
  simpa using this
def MapEl (r : List Nat) (news : List (Addr × Obj)) (y : Value) (news' : List (Addr × Obj)) : Prop := (∃ t, y = .str (S r) t) ∧ news' = news
def FEl (p : Bool) (r : List Nat) (news : List (Addr × Obj)) (y : Value) (news' : List (Addr × Obj)) : Prop := p = true ∧ (∃ t, y = .str (S r) t) ∧ news' = news
def FNo (p : Bool) (news news' : List (Addr × Obj)) : Prop := p = false ∧ news' = news
section
variable {prog : Program} {w : World} {A : Around} {h₀ : Heap} {L : Addr} {m : Str → Option Value} {env : Env} {ct elt : Expr} {x : Str} {scope : Scope} {cl : List (Str × Addr)} {s : Shared} {Sc : List (Addr × Obj) → Prop} {Fin : List Value → List (Addr × Obj) → Prop} {news : List (Addr × Obj)} {its : Array Value} {ws : List (List Nat)} {f : List Nat → List Nat}
theorem rest_mapS (hS : StrsAre its.toList (ws.map S)) (hSc : Sc news) (hb : ∀ wd ∈ ws, wd.length ≤ 500)
    (turn : ∀ wd u I oI C oC D m₂ ys h tk (E' : Value → Shared → Prop), wd.length ≤ 500 → (S wd).length ≤ 500 → wd ∈ ws → NsObj oC m₂ → m₂ x = some (.str (S wd) u) → Fr h₀ L h m → News h₀ L h ((I, oI) :: (C, oC) :: (D, lst ys) :: news) → Off3 I C D news → ((@Ne Nat I C) ∧ (@Ne Nat I D) ∧ (@Ne Nat C D)) →
      wpAny (model prog w) A (eval elt (compEnvC scope cl C env)) (CompEnd h₀ L m { s with heap := h, toks := tk } I oI C oC D (lst ys) (fun _ => True) (fun y news' => MapEl (f wd) news y news')) E' { s with heap := h, toks := tk })
    (fin : ∀ ys, StrsAre ys ((ws.map f).map S) → Fin ys news) :
    CompRest prog w A h₀ L m env elt x scope cl s Sc (fun i v => its[i]? = some v) Fin its.size 0 [] news := by
  have hsz := strs_szS hS
  have key : ∀ (j i : Nat) (ys : List Value), i + j = its.size → StrsAre ys (((ws.take i).map f).map S) → CompRest prog w A h₀ L m env elt x scope cl s Sc (fun i v => its[i]? = some v) Fin j i ys news := by
    intro j
    induction j with
    | zero =>
      intro i ys hi hy
      rw [List.take_of_length_le (by omega)] at hy
      exact CompRest.zero (fin ys hy)
    | succ j ih =>
      intro i ys hi hy
      refine CompRest.succ ?_
      intro v I oI C oC D m₂ h tk E' hv hC hx F N off ne
      obtain ⟨wd, u, hw, rfl⟩ := strs_getS hS hv
      refine wpAny_mono (turn wd u I oI C oC D m₂ ys h tk E' (hb wd (List.mem_of_getElem? hw)) (by rw [S_len]; exact hb wd (List.mem_of_getElem? hw)) (List.mem_of_getElem? hw) hC hx F N off ne) (fun y s₃ hr => ?_) fun _ _ e => e
      obtain ⟨h', tk', nw, e, F', N', off', hS', ⟨t, rfl⟩, hn⟩ := hr
      rw [hn] at N' off'
      refine ⟨h', tk', news, e, F', N', off', hSc, ih (i + 1) _ (by omega) ?_⟩
      rw [List.take_add_one, hw]
      simpa using hy.append' (.cons _ t .nil)
  exact key its.size 0 [] (by omega) .nil
theorem rest_filtS (p : List Nat → Bool) (hS : StrsAre its.toList (ws.map S)) (hSc : Sc news) (hb : ∀ wd ∈ ws, wd.length ≤ 500)
    (turn : ∀ wd u I oI C oC D m₂ ys h tk (E' : Value → Shared → Prop), wd.length ≤ 500 → (S wd).length ≤ 500 → wd ∈ ws → NsObj oC m₂ → m₂ x = some (.str (S wd) u) → Fr h₀ L h m → News h₀ L h ((I, oI) :: (C, oC) :: (D, lst ys) :: news) → Off3 I C D news → ((@Ne Nat I C) ∧ (@Ne Nat I D) ∧ (@Ne Nat C D)) →
      wpAny (model prog w) A (isTrue ct (compEnvC scope cl C env) (eval ct (compEnvC scope cl C env))) (fun b s' => if b = true then wpAny (model prog w) A (eval elt (compEnvC scope cl C env)) (CompEnd h₀ L m { s with heap := h, toks := tk } I oI C oC D (lst ys) (fun _ => True) (fun y news' => FEl (p wd) (f wd) news y news')) E' s'
        else CompEnd h₀ L m { s with heap := h, toks := tk } I oI C oC D (lst ys) (fun _ => True) (fun _ news' => FNo (p wd) news news') Value.none s') E' { s with heap := h, toks := tk })
    (fin : ∀ ys, StrsAre ys (((ws.filter p).map f).map S) → Fin ys news) :
    CompRestT prog w A h₀ L m env ct elt x scope cl s Sc (fun i v => its[i]? = some v) Fin its.size 0 [] news := by
  have hsz := strs_szS hS
  have key : ∀ (j i : Nat) (ys : List Value), i + j = its.size → StrsAre ys ((((ws.take i).filter p).map f).map S) → CompRestT prog w A h₀ L m env ct elt x scope cl s Sc (fun i v => its[i]? = some v) Fin j i ys news := by
    intro j
    induction j with
    | zero =>
      intro i ys hi hy
      rw [List.take_of_length_le (by omega)] at hy
      exact CompRestT.zero (fin ys hy)
    | succ j ih =>
      intro i ys hi hy
      refine CompRestT.succ ?_
      intro v I oI C oC D m₂ h tk E' hv hC hx F N off ne
      obtain ⟨wd, u, hw, rfl⟩ := strs_getS hS hv
      have hs : ws.take (i + 1) = ws.take i ++ [wd] := by rw [List.take_add_one, hw]; rfl
      refine wpAny_mono (turn wd u I oI C oC D m₂ ys h tk E' (hb wd (List.mem_of_getElem? hw)) (by rw [S_len]; exact hb wd (List.mem_of_getElem? hw)) (List.mem_of_getElem? hw) hC hx F N off ne) (fun b s₂ hq => ?_) fun _ _ e => e
      cases b with
      | true =>
        simp only [if_true] at hq ⊢
        refine wpAny_mono hq (fun y s₃ hr => ?_) fun _ _ e => e
        obtain ⟨h', tk', nw, e, F', N', off', hS', hp, ⟨t, rfl⟩, hn⟩ := hr
        rw [hn] at N' off'
        refine ⟨h', tk', news, e, F', N', off', hSc, ih (i + 1) _ (by omega) ?_⟩
        rw [hs]
        simpa [List.filter_append, hp] using hy.append' (.cons _ t .nil)
      | false =>
        simp only [Bool.false_eq_true, if_false] at hq ⊢
        obtain ⟨h', tk', nw, e, F', N', off', hS', hp, hn⟩ := hq
        rw [hn] at N' off'
        refine ⟨h', tk', news, e, F', N', off', hSc, ih (i + 1) _ (by omega) ?_⟩
        rw [hs]
        simpa [List.filter_append, hp] using hy
  exact key its.size 0 [] (by omega) .nil
end
end Mine
end
section
open PySem PySem.W PyProof.Rows PySem.Calls PySem.Spec
namespace Mine
open LCg LCt
/-- the reading machine of parse_list_header: items, item, escape, quote -/
abbrev PS := List Str × Str × Bool × Bool
def plStep (st : PS) (c : Int) : PS :=
  if st.2.2.1 then (st.1, st.2.1 ++ S [c.toNat], false, st.2.2.2)
  else if st.2.2.2 then (st.1, st.2.1 ++ S [c.toNat], decide (c = 92), decide (c ≠ 34))
  else if c = 44 then (st.1 ++ [st.2.1], Str.empty, false, false)
  else (st.1, st.2.1 ++ S [c.toNat], false, decide (c = 34))
def plRun (pre : List Int) : PS := pre.foldl plStep ([], Str.empty, false, false)
local macro_rules | `(tactic| walk_at "my enterP") => `(tactic| k_dflt (refine' enter_plain ?k1 ?k2 ?k3 ?k5 ?kA ?kF ?kK ?k6 ?k7 ?k8 ?k9 ?kB ?kL ?_ ?c2 ?c3 ?c4 ?c5; (case kA => exact rfl); (case kF => exact rfl); (case kK => assumption); (case k1 => k_asm); (case k2 => k_asm); (case k3 => k_asm); (case k5 => k_asm); (case k6 => k_is); (case k7 => k_is); (case k8 => ktr_room); (case k9 => exact BindsTo.of_eq rfl); (case c5 => decide); (case kB => exact locs rfl); (case kL => exact ⟨_, _, rfl⟩); (case c2 => exact rfl); (case c3 => exact rfl); (case c4 => exact rfl); k_whole; intro g' L' h' tk' htk' hst' FG' F' N' B' X' T'; (try dsimp only); (try k_lift B'); (try k_fold)))
local macro_rules | `(tactic| walk_at "execs cons") => `(tactic| (k_here; (with_reducible refine execs_cons_tk (by first | assumption | (dsimp only; omega)) ?_); try dsimp only))
local macro_rules | `(tactic| walk_at "execs nil") => `(tactic| (k_here; (with_reducible refine wpAny_execs_nil ?_); try dsimp only))
theorem fillK3 : PySem.Challenge.rw_vm0023_01 = PySem.Challenge.rw_vm0023_01 ∧ hd.heap_39 = hd.heap_39 := by
  k_fill
  exact ⟨rfl, rfl⟩
structure PLσ where
  ws : List Str
  us : Array Value
  num : Nat
  item : Str
  ti : Tok
  esc : Bool
  quo : Bool
theorem plStep_len (st : PS) (c : Int) : (plStep st c).2.1.length ≤ st.2.1.length + 1 ∧ (plStep st c).1.length ≤ st.1.length + 1 := by
  have e1 : ∀ (a : Str) (n : Nat), (a ++ S [n]).length = a.length + 1 := fun a n => by rw [Str.length_append]; rfl
  unfold plStep
  split
  · exact ⟨by simp [e1], by simp⟩
  · split
    · exact ⟨by simp [e1], by simp⟩
    · split
      · exact ⟨by show (Str.empty).length ≤ _; exact Nat.zero_le _, by simp⟩
      · exact ⟨by simp [e1], by simp⟩
theorem plFold_len : ∀ (l : List Int) (st : PS), (l.foldl plStep st).2.1.length ≤ st.2.1.length + l.length ∧ (l.foldl plStep st).1.length ≤ st.1.length + l.length
  | [], st => ⟨Nat.le_refl _, Nat.le_refl _⟩
  | c :: r, st => by
    have h := plFold_len r (plStep st c)
    have h1 := plStep_len st c
    simp only [List.foldl_cons, List.length_cons]
    omega
theorem plRun_len {pre : List Int} {ws : List Str} {item : Str} {esc quo : Bool} (h : plRun pre = (ws, item, esc, quo)) : item.length ≤ pre.length ∧ ws.length ≤ pre.length := by
  have := plFold_len pre ([], Str.empty, false, false)
  unfold plRun at h
  rw [h] at this
  have e : Str.empty.length = 0 := rfl
  simp only [e, List.length_nil, Nat.zero_add] at this
  exact this
theorem plRun_snoc (pre : List Int) (n : Int) : plRun (pre ++ [n]) = plStep (plRun pre) n := by simp [plRun, List.foldl_append]
def PLP (pre : List Int) (c : PLσ) : Prop := plRun pre = (c.ws, c.item, c.esc, c.quo)
theorem pl_init {t : Tok} : PLP [] ⟨[], #[], 0, Str.ofString "", t, false, false⟩ := rfl
section
variable {prog : Program} {w : World} {A : Around} {E : Value → Shared → Prop} {s : Shared} {env : Env} {h₀ : Heap} {xt : Str} {body : List Stmt} {Q : Flow → Shared → Prop} {tx : Tok} {m₀ : Str → Option Value} {l' : Addr} {t₀ : Tok}
def PLFin (h₀ : Heap) (L l' : Addr) (m₀ : Str → Option Value) (own : List (Addr × Obj)) (st : PS) (s₁ s₂ : Shared) : Prop :=
  ∃ h' tk m' news' , ∃ c : PLσ, s₂ = { s₁ with heap := h', toks := tk } ∧ Fr h₀ L h' m' ∧ News h₀ L h' news' ∧ (l', listOf c.us c.num) ∈ news' ∧ (∀ p ∈ own, p ∈ news') ∧ StrsAre c.us.toList c.ws ∧
     m' (Str.ofString "item") = some (.str c.item c.ti) ∧ m' (Str.ofString "escape") = some (.bool c.esc) ∧ m' (Str.ofString "quote") = some (.bool c.quo) ∧
     (∀ z, z ≠ Str.ofString "char" → z ≠ Str.ofString "item" → z ≠ Str.ofString "escape" → z ≠ Str.ofString "quote" → m' z = m₀ z) ∧ st = (c.ws, c.item, c.esc, c.quo)
def PLEnd (h₀ : Heap) (L l' : Addr) (m₀ : Str → Option Value) (own : List (Addr × Obj)) (st : PS) (s₁ : Shared) (Q : Flow → Shared → Prop) (f : Flow) (s₂ : Shared) : Prop :=
  match f with
  | .ret v => Q (.ret v) s₂
  | .brk => Q .next s₂
  | _ => PLFin h₀ L l' m₀ own st s₁ s₂
theorem pl_loop {L : Addr} (hh : A.handled = none) (F : Fr h₀ L s.heap m₀) (N : News h₀ L s.heap [(l', listOf #[] 0)]) (hL : env.locals = L) (hx : xt.length ≤ 500)
    (k1 : m₀ (Str.ofString "item") = some (.str (Str.ofString "") t₀)) (k2 : m₀ (Str.ofString "escape") = some (.bool false)) (k3 : m₀ (Str.ofString "quote") = some (.bool false))
    (turn : ∀ (us : Array Value) (num : Nat) (ws : List Str) (item : Str) (ti : Tok) (esc quo : Bool) (n : Nat) t h tk own, OwnOff own [l'] → StrsAre us.toList ws → item.length ≤ 500 → us.size ≤ 500 →
      Fr h₀ L h (fun y => if y = Str.ofString "char" then some (.str ⟨#[n]⟩ t) else if y = Str.ofString "item" then some (.str item ti) else if y = Str.ofString "escape" then some (.bool esc) else if y = Str.ofString "quote" then some (.bool quo) else m₀ y) →
      News h₀ L h ([(l', listOf us num)] ++ own) →
      wpAny (model prog w) A (execs body env) (PLEnd h₀ L l' m₀ own (plStep (ws, item, esc, quo) n) { s with heap := h, toks := tk } Q) E { s with heap := h, toks := tk })
    (done : ∀ (us : Array Value) (num : Nat) (ws : List Str) (item : Str) (ti : Tok) (esc quo : Bool) (u : Str → Option Value) h tk, StrsAre us.toList ws → plRun (KStt.codes xt) = (ws, item, esc, quo) → item.length ≤ 500 → us.size ≤ 500 →
      Fr h₀ L h (fun y => if y = Str.ofString "char" then u y else if y = Str.ofString "item" then some (.str item ti) else if y = Str.ofString "escape" then some (.bool esc) else if y = Str.ofString "quote" then some (.bool quo) else m₀ y) →
      News h₀ L h [(l', listOf us num)] → Q .next { s with heap := h, toks := tk }) :
    wpAny (model prog w) A (pyIter (.str xt tx)) (fun it s₂ => LoopAtV prog w A h₀ env (Str.ofString "char") body Q E it s₂) E s := by
  subst hL
  have hcl : (KStt.codes xt).length ≤ 500 := by rw [KStt.codes_length]; exact hx
  refine KStt.kst_text (σ := PLσ) (fun c => [(l', listOf c.us c.num)]) (fun c => [(Str.ofString "item", .str c.item c.ti), (Str.ofString "escape", .bool c.esc), (Str.ofString "quote", .bool c.quo)]) (fun c => StrsAre c.us.toList c.ws) [] PLP ⟨[], #[], 0, Str.ofString "", t₀, false, false⟩ hh F N .nil ?_ pl_init ?_ ?_
  · intro p hp
    simp only [List.mem_cons, List.not_mem_nil, or_false] at hp
    rcases hp with rfl | rfl | rfl <;> assumption
  · intro c pre post n t u h tk own hc hoff hf hp F₁ N₁
    have hlen := plRun_len hp
    have hpre : pre.length ≤ 500 := by
      have := congrArg List.length hc
      simp at this; omega
    refine wpAny_mono (turn c.us c.num c.ws c.item c.ti c.esc c.quo n t h tk own hoff hf (by omega) (by have := StrsAre.len_eq hf; rw [Array.length_toList] at this; omega) F₁ N₁) (fun f s₂ hq => ?_) fun _ _ e => e
    have fin : PLFin h₀ env.locals l' m₀ own (plStep (c.ws, c.item, c.esc, c.quo) n) { s with heap := h, toks := tk } s₂ → InvEndN h₀ env.locals (KstS (fun c : PLσ => [(l', listOf c.us c.num)]) (fun c => [(Str.ofString "item", .str c.item c.ti), (Str.ofString "escape", .bool c.esc), (Str.ofString "quote", .bool c.quo)]) (fun c => StrsAre c.us.toList c.ws) (Str.ofString "char") [] m₀ PLP (pre ++ [(n : Int)])) own [l'] { s with heap := h, toks := tk } s₂ := by
      rintro ⟨h', tk', m', news', c', rfl, F', N', h1, h2, h3, e1, e2, e3, e4, h5⟩
      refine kst_end c' F' N' ?_ h2 rfl h3 ?_ ?_ ?_
      · intro p hp; rw [List.mem_singleton.mp hp]; exact h1
      · intro p hp
        simp only [List.mem_cons, List.not_mem_nil, or_false] at hp
        rcases hp with rfl | rfl | rfl <;> assumption
      · intro z h1 h2 _
        exact e4 z h1 (h2 _ (.head _)) (h2 _ (.tail _ (.head _))) (h2 _ (.tail _ (.tail _ (.head _))))
      · show plRun _ = _
        rw [plRun_snoc, hp]; exact h5
    cases f with
    | ret v => exact hq
    | brk => exact hq
    | next => exact fin hq
    | cont => exact fin hq
  · intro c u h tk hf hp F₁ N₁
    have := plRun_len hp
    exact done c.us c.num c.ws c.item c.ti c.esc c.quo u h tk hf hp (by omega) (by have := StrsAre.len_eq hf; rw [Array.length_toList] at this; omega) F₁ N₁
end
theorem pl_mem {l' : Addr} {us : Array Value} {num : Nat} {own : List (Addr × Obj)} : (l', listOf us num) ∈ [(l', listOf us num)] ++ own := .head _
theorem strs_push {us : Array Value} {ws : List Str} {x : Str} {t : Tok} (h : StrsAre us.toList ws) : StrsAre (us.push (.str x t)).toList (ws ++ [x]) := by
  rw [Array.toList_push]; exact h.append' (.cons _ _ .nil)
theorem app_hd {prog : Program} {w : World} {A : Around} {E : Value → Shared → Prop} {s : Shared} {h₀ : Heap} {L D : Addr} {m : Str → Option Value} {its : Array Value} {n : Nat} {x : Value} {own : List (Addr × Obj)} {Q : Value → Shared → Prop} (F : Fr h₀ L s.heap m) (N : News h₀ L s.heap ([(D, listOf its n)] ++ own)) (off : OwnOff own [D]) (hsz : its.size ≤ 500)
    (h : ∀ h', Fr h₀ L h' m → News h₀ L h' ([(D, listOf (its.push x) (n + 1))] ++ own) → Q .none { s with heap := h' }) : wpAny (model prog w) A (call (.builtin "list.append") [.ref D, x]) Q E s :=
  append_K F N (.head fun p hp => off p hp D (.head _)) h (Nat.le_trans hsz (by decide))
theorem app_one {prog : Program} {w : World} {A : Around} {E : Value → Shared → Prop} {s : Shared} {h₀ : Heap} {L D : Addr} {m : Str → Option Value} {its : Array Value} {n : Nat} {x : Value} {Q : Value → Shared → Prop} (F : Fr h₀ L s.heap m) (N : News h₀ L s.heap [(D, listOf its n)]) (hsz : its.size ≤ 500)
    (h : ∀ h', Fr h₀ L h' m → News h₀ L h' [(D, listOf (its.push x) (n + 1))] → Q .none { s with heap := h' }) : wpAny (model prog w) A (call (.builtin "list.append") [.ref D, x]) Q E s :=
  append_K F N (.head fun p hp => nomatch hp) h (Nat.le_trans hsz (by decide))
local macro_rules | `(tactic| walk_at "call builtin:list.append") => `(tactic| (k_here; (try dsimp only [List.cons_append, List.nil_append]); first | (refine app_hd (by assumption) (by assumption) (by assumption) (by assumption) ?_; intro h8' F8' N8') | (refine app_one (by assumption) (by assumption) (by assumption) ?_; intro h8' F8' N8')))
theorem one_eq (n : Nat) (l : String) (c : Nat) (h : Str.ofString l = S [c]) : ((⟨#[n]⟩ : Str) == Str.ofString l) = decide (n = c) := by
  rw [h, Bool.eq_iff_iff]
  simp only [beq_iff_eq, decide_eq_true_eq]
  constructor
  · intro e
    have := congrArg (fun x : Str => x.cps.toList) e
    simpa [S] using this
  · rintro rfl; rfl
theorem one_bs (n : Nat) : ((⟨#[n]⟩ : Str) == Str.ofString "\\") = decide (n = 92) := one_eq n _ 92 (by decide +kernel)
theorem one_dq (n : Nat) : ((⟨#[n]⟩ : Str) == Str.ofString "\"") = decide (n = 34) := one_eq n _ 34 (by decide +kernel)
theorem one_co (n : Nat) : ((⟨#[n]⟩ : Str) == Str.ofString ",") = decide (n = 44) := one_eq n _ 44 (by decide +kernel)
section
variable {ws : List Str} {item : Str} {esc quo : Bool} {n : Nat}
theorem pl_s1 (h : esc = true) : plStep (ws, item, esc, quo) (n : Int) = (ws, item ++ ⟨#[n]⟩, false, quo) := by
  subst h; rfl
theorem pl_s2 (h1 : esc = false) (h2 : quo = true) (h3 : ((⟨#[n]⟩ : Str) == Str.ofString "\\") = true) : plStep (ws, item, esc, quo) (n : Int) = (ws, item ++ ⟨#[n]⟩, true, quo) := by
  subst h1 h2; rw [one_bs, decide_eq_true_eq] at h3; subst h3; rfl
theorem pl_s3 (h1 : esc = false) (h2 : quo = true) (h3 : ((⟨#[n]⟩ : Str) == Str.ofString "\\") = false) (h4 : ((⟨#[n]⟩ : Str) == Str.ofString "\"") = true) : plStep (ws, item, esc, quo) (n : Int) = (ws, item ++ ⟨#[n]⟩, esc, false) := by
  subst h1 h2; rw [one_dq, decide_eq_true_eq] at h4; subst h4; rfl
theorem pl_s4 (h1 : esc = false) (h2 : quo = true) (h3 : ((⟨#[n]⟩ : Str) == Str.ofString "\\") = false) (h4 : ((⟨#[n]⟩ : Str) == Str.ofString "\"") = false) : plStep (ws, item, esc, quo) (n : Int) = (ws, item ++ ⟨#[n]⟩, esc, quo) := by
  subst h1 h2; rw [one_dq, decide_eq_false_iff_not] at h4; rw [one_bs, decide_eq_false_iff_not] at h3
  have e3 : ¬ (n : Int) = 92 := by omega
  have e4 : ¬ (n : Int) = 34 := by omega
  simp [plStep, e3, e4, S]
theorem pl_s5 (h1 : esc = false) (h2 : quo = false) (h3 : ((⟨#[n]⟩ : Str) == Str.ofString ",") = true) : plStep (ws, item, esc, quo) (n : Int) = (ws ++ [item], Str.ofString "", esc, quo) := by
  subst h1 h2; rw [one_co, decide_eq_true_eq] at h3; subst h3; rfl
theorem pl_s6 (h1 : esc = false) (h2 : quo = false) (h3 : ((⟨#[n]⟩ : Str) == Str.ofString ",") = false) (h4 : ((⟨#[n]⟩ : Str) == Str.ofString "\"") = true) : plStep (ws, item, esc, quo) (n : Int) = (ws, item ++ ⟨#[n]⟩, esc, true) := by
  subst h1 h2; rw [one_dq, decide_eq_true_eq] at h4; subst h4; rfl
theorem pl_s7 (h1 : esc = false) (h2 : quo = false) (h3 : ((⟨#[n]⟩ : Str) == Str.ofString ",") = false) (h4 : ((⟨#[n]⟩ : Str) == Str.ofString "\"") = false) : plStep (ws, item, esc, quo) (n : Int) = (ws, item ++ ⟨#[n]⟩, esc, quo) := by
  subst h1 h2; rw [one_dq, decide_eq_false_iff_not] at h4; rw [one_co, decide_eq_false_iff_not] at h3
  have e3 : ¬ (n : Int) = 44 := by omega
  have e4 : ¬ (n : Int) = 34 := by omega
  simp [plStep, e3, e4, S]
end
local macro_rules | `(tactic| walk_at "PLEnd") => `(tactic| (k_here; show PLFin _ _ _ _ _ _ _ _; refine' ⟨_, _, _, _, ⟨_, _, _, _, _, _, _⟩, rfl, by assumption, by assumption, ?m, ?o, ?sa, ?e1, ?e2, ?e3, ?e4, ?st⟩; (case e1 => with_unfolding_all rfl); (case e2 => with_unfolding_all rfl); (case e3 => with_unfolding_all rfl); (case e4 => (intro z h1 h2 h3 h4; simp only [h1, h2, h3, h4, if_false])); (case m => dsimp only; exact pl_mem); (case o => exact fun p hp => List.mem_append_right _ hp); (case sa => dsimp only; first | with_reducible assumption | exact strs_push (by assumption)); (case st => first | exact pl_s1 (by assumption) | exact pl_s2 (by assumption) (by assumption) (by assumption) | exact pl_s3 (by assumption) (by assumption) (by assumption) (by assumption) | exact pl_s4 (by assumption) (by assumption) (by assumption) (by assumption) | exact pl_s5 (by assumption) (by assumption) (by assumption) | exact pl_s6 (by assumption) (by assumption) (by assumption) (by assumption) | exact pl_s7 (by assumption) (by assumption) (by assumption) (by assumption))))
local macro_rules | `(tactic| walk_at "my steps") => `(tactic| repeat' (first | (k_unfold; (try dsimp only)) | walk1 | (dsimp only; walk1) | (leave1; (try dsimp only)) | fail "no step"))
theorem plStep_sum (st : PS) (c : Int) : ((plStep st c).1.map (·.length)).sum + (plStep st c).2.1.length ≤ (st.1.map (·.length)).sum + st.2.1.length + 1 := by
  have e1 : ∀ (a : Str) (n : Nat), (a ++ S [n]).length = a.length + 1 := fun a n => by rw [Str.length_append]; rfl
  unfold plStep
  split
  · simp [e1]; omega
  · split
    · simp [e1]; omega
    · split
      · have : Str.empty.length = 0 := rfl
        simp [this]
      · simp [e1]; omega
theorem plFold_sum : ∀ (l : List Int) (st : PS), ((l.foldl plStep st).1.map (·.length)).sum + (l.foldl plStep st).2.1.length ≤ (st.1.map (·.length)).sum + st.2.1.length + l.length
  | [], st => Nat.le_refl _
  | c :: r, st => by
    have h := plFold_sum r (plStep st c)
    have h1 := plStep_sum st c
    simp only [List.foldl_cons, List.length_cons]
    omega
theorem len_le_sum : ∀ {ws : List Str} {y : Str}, y ∈ ws → y.length ≤ (ws.map (·.length)).sum
  | _ :: _, _, .head _ => by simp
  | _ :: r, _, .tail _ h => by
    have := len_le_sum h
    simp only [List.map_cons, List.sum_cons]; omega
theorem plRun_bound {xt : Str} {ws : List Str} {item : Str} {esc quo : Bool} (h : plRun (KStt.codes xt) = (ws, item, esc, quo)) (hx : xt.length ≤ 500) : ∀ y ∈ ws ++ [item], y.length ≤ 500 := by
  have := plFold_sum (KStt.codes xt) ([], Str.empty, false, false)
  unfold plRun at h
  rw [h, KStt.codes_length] at this
  have e : Str.empty.length = 0 := rfl
  simp only [e, List.map_nil, List.sum_nil, Nat.zero_add] at this
  intro y hy
  rcases List.mem_append.mp hy with hy | hy
  · have := len_le_sum hy; omega
  · rw [List.mem_singleton.mp hy]; omega
def unS (ys : List Str) : List (List Nat) := ys.map fun y => y.cps.toList
theorem unS_S (ys : List Str) : (unS ys).map S = ys := by
  unfold unS
  rw [List.map_map]
  conv => rhs; rw [← List.map_id ys]
  exact List.map_congr_left fun y _ => S_cps y
theorem unS_bound {ys : List Str} (h : ∀ y ∈ ys, y.length ≤ 500) : ∀ wd ∈ unS ys, wd.length ≤ 500 := by
  intro wd hw
  obtain ⟨y, hy, rfl⟩ := List.mem_map.mp hw
  rw [len_cps]; exact h y hy
theorem strs_unS {l : List Value} {ys : List Str} (h : StrsAre l ys) : StrsAre l ((unS ys).map S) := by rw [unS_S]; exact h
theorem src_at {h₀ : Heap} {ax : Addr} {its : Array Value} {num : Nat} {news : List (Addr × Obj)} (h : (ax, listOf its num) ∈ news) : SrcAt h₀ ax its news := .inr ⟨_, h, rfl, _, rfl⟩
theorem strip_call {prog : Program} {w : World} {A : Around} {E : Value → Shared → Prop} {s : Shared} {l : List Nat} {t u : Tok} {Q : Value → Shared → Prop} (hl : l.length ≤ 500) (h : ∀ t' k, Q (.str (S (strip2 l)) t') { s with toks := k }) :
    wpAny (model prog w) A (call (.builtin "str.strip") [.str (S l) t, .str (Str.ofString " \t") u]) Q E s :=
  SC.stripChars (hsz := by rw [S_len]; exact Nat.le_trans hl (by decide)) fun t' k => by rw [strip_S]; exact h t' k
theorem truthy_S {prog : Program} {w : World} {A : Around} {E : Value → Shared → Prop} {s : Shared} {l : List Nat} {t : Tok} {Q : Bool → Shared → Prop} (hl : l.length ≤ 500) (h : wpAny (model prog w) A (truthy (.str (S l) t)) Q E s) : wpAny (model prog w) A (truthy (.str (S l) t)) Q E s := h
local macro_rules | `(tactic| walk_at "call builtin:str.strip") => `(tactic| (k_here; (try dsimp only [List.cons_append, List.nil_append]); refine strip_call (by assumption) ?_; intro t9' k9'))
local macro_rules | `(tactic| walk_at "eval ListComp") => `(tactic| (k_here; first
  | k_dflt ((with_reducible refine' LCt.ListComp_T ?kF ?k1 ?k2 ?k3 ?k4 ?k5 ?_ ?ks); (case kF => k_asm); (case k1 => with_unfolding_all rfl); (case k2 => decide); (case k3 => rfl); (case k4 => decide); (case k5 => rfl); (case ks => intro _; rfl))
  | k_dflt ((with_reducible refine' LCg.ListComp_U ?kF ?k1 ?k2 ?k3 ?k4 ?k5 ?_ ?ks); (case kF => k_asm); (case k1 => with_unfolding_all rfl); (case k2 => decide); (case k3 => rfl); (case k4 => decide); (case k5 => rfl); (case ks => intro _; rfl))))
local macro_rules | `(tactic| walk_at "CompSrc") => `(tactic| (k_here; k_dflt (refine' CompSrc.ledger (by rfl) (by k_asm) (by k_asm) ?km ?kz ?_; (case km => exact .head _); (case kz => (rw [Array.size_push]; exact Nat.le_trans (Nat.succ_le_succ (by assumption)) (by decide))); intro g'; refine' rest_mapS (f := strip2) (strs_unS (strs_push (by assumption))) (src_at (.head _)) (unS_bound (plRun_bound (by assumption) (by assumption))) (fun wd' u' I' oI' C' oC' D' m' ys' h' tk' E' hl' hl2' hw' hC' hx' F' N' off' ne' => ?_) ?fin; (case' fin => (intro ys9' hys9'; unfold FinE; intro D9' h9' tk9' F9' N9' o9')); (try simp only [LCg.Off3, and_true] at off'))))
local macro_rules | `(tactic| walk_at "MapEl") => `(tactic| exact ⟨⟨_, rfl⟩, rfl⟩)
theorem ne_yes {l : List Nat} (h : ¬ ((S l).length : Int) = 0) : (!l.isEmpty) = true := by
  rw [S_len] at h; cases l <;> simp at h ⊢
theorem ne_no {l : List Nat} (h : ((S l).length : Int) = 0) : (!l.isEmpty) = false := by
  rw [S_len] at h; cases l <;> simp at h ⊢; omega
local macro_rules | `(tactic| walk_at "FEl") => `(tactic| exact ⟨ne_yes (by assumption), ⟨_, rfl⟩, rfl⟩)
local macro_rules | `(tactic| walk_at "FNo") => `(tactic| exact ⟨ne_no (by assumption), rfl⟩)
theorem strip_bound {ws : List (List Nat)} (h : ∀ wd ∈ ws, wd.length ≤ 500) : ∀ wd ∈ ws.map strip2, wd.length ≤ 500 := by
  intro wd hw
  obtain ⟨y, hy, rfl⟩ := List.mem_map.mp hw
  exact Nat.le_trans (strip2_len y) (h y hy)
theorem strs_le {ys : List Value} {ws : List (List Nat)} (h : StrsAre ys (ws.map S)) (hw : ws.length ≤ 501) : ys.toArray.size ≤ sizeLine := by
  have := StrsAre.len_eq h
  rw [List.size_toArray, this, List.length_map]
  exact Nat.le_trans hw (by decide)
theorem unS_len {ws : List Str} {us : Array Value} {x : Str} (h : StrsAre us.toList ws) (hu : us.size ≤ 500) : ((unS (ws ++ [x])).map strip2).length ≤ 501 := by
  have := StrsAre.len_eq h
  unfold unS
  simp only [List.length_map, List.length_append, List.length_singleton]
  rw [Array.length_toList] at this; omega
local macro_rules | `(tactic| walk_at "CompSrcT") => `(tactic| (k_here; k_dflt (refine' CompSrcT.ledger (by rfl) (by k_asm) (by k_asm) ?km ?kz ?_; (case km => exact .head _); (case kz => exact strs_le (by assumption) (unS_len (by assumption) (by assumption))); intro g'; refine' rest_filtS (f := unq) (fun l => !l.isEmpty) (its := List.toArray _) (by assumption) (src_at (.head _)) (strip_bound (unS_bound (plRun_bound (by assumption) (by assumption)))) (fun wd' u' I' oI' C' oC' D' m' ys' h' tk' E' hl' hl2' hw' hC' hx' F' N' off' ne' => ?_) ?fin; (try simp only [LCg.Off3, and_true] at off'))))
theorem call_unq {w : World} {mean : ExcName → Option Value} {mg mb : Str → Option Value} {A : Around} {dp un : Nat} {gd : Option (List Code)} {cn : Str} {cs : Scope} {a : Addr} {ccd : Value} {cl : List (Str × Addr)} {outer : List Env} {A₀ : Around} {base h₀ : Heap} {L : Addr} {m : Str → Option Value} {s : Shared} {Q E : Value → Shared → Prop} {news : List (Addr × Obj)} {v : List Nat} {tv : Tok}
    (hA : A = ktrTop dp un gd cn cs L a ccd cl outer) (F : Fr h₀ L s.heap m) (B : Below A₀ base outer h₀) (X : (hd.heap_39 w.params).In h₀) (T : Top topProg LO mean mg mb h₀) (N : News h₀ L s.heap news) (hp : TabFull h₀) (hk : cs.kind = .function) (hd : dp + 2 < recursionLimit) (hu : un + 16 < cLine) (hv : v.length ≤ 500)
    (ret : ∀ t h' tk', Fr h₀ L h' m → News h₀ L h' news → Q (.str (S (unq v)) t) { s with heap := h', toks := tk' }) :
    wpAny (model PG w) A (call (.ref 49) [.str (S v) tv]) Q E s := by
  subst hA
  exact con_val (con_unqC w mean mg mb v tv hv) B F X T N (hp.keeps F.keep) hk hd (by omega) fun v' h' tk' F' N' ⟨t, e⟩ => e ▸ ret t h' tk' F' N'
local macro_rules | `(tactic| walk_at "call ref") => `(tactic| (k_here; (try dsimp only [List.cons_append, List.nil_append]); k_dflt (refine' call_unq ?kA ?kF ?kB ?kX ?kT ?kN ?kp ?kk ?kd ?ku ?kv ?_; (case kA => rfl); (case kF => k_asm); (case kB => k_asm); (case kX => k_asm); (case kT => k_asm); (case kN => k_asm); (case kp => exact TabFull.keeps (by assumption) (by assumption)); (case kk => rfl); (case kd => ktr_room); (case ku => dsimp only [Around.deeper, ktrTop]; omega); (case kv => assumption)); intro t7' h7' k7' F7' N7'))
local macro_rules | `(tactic| walk_at "LeaveK") => `(tactic| (k_here; k_dflt (refine' leaveK_ ?k1 ?k2 ?_; (case k1 => k_asm); (case k2 => k_asm)); intro kF kN; (try dsimp only)))
local macro_rules | `(tactic| walk_at "CompEnd") => `(tactic| (k_here; k_dflt (refine' CompEnd.intro ?kF ?kN _ (fun p hp => hp) ?kO trivial ?_; (case kF => k_asm); (case kN => k_asm); (case kO => first | assumption | (simp only [LCg.Off3, and_true]; assumption)))))
local macro_rules | `(tactic| walk_at "my plloop") => `(tactic| (k_here; (refine' pl_loop (by rfl) (by assumption) (by assumption) (by rfl) (by assumption) (by with_unfolding_all rfl) (by with_unfolding_all rfl) (by with_unfolding_all rfl) ?tn ?dn); (case' tn => intro us' num' ws' item' ti' esc' quo' n' t' h' tk' own' hoff' hus' hil' hul' F' N'; (try k_fold)); (case' dn => intro us' num' ws' item' ti' esc' quo' u' h' tk' hus' hrun' hil' hul' F' N'; (try k_fold))))
/-- what parse_list_header gives -/
def parseL (v : List Nat) : List (List Nat) :=
  if (plRun (KStt.codes (S v))).2.2.2 = true then [] else (((unS ((plRun (KStt.codes (S v))).1 ++ [(plRun (KStt.codes (S v))).2.1])).map strip2).filter fun l => !l.isEmpty).map unq
/-- r is a new list of these texts -/
def StrList (ws : List (List Nat)) (h h' : Heap) (r : Value) : Prop := ∃ D ys, r = .ref D ∧ h'.get? D = some (lst ys) ∧ h.get? D = none ∧ StrsAre ys (ws.map S)
theorem strList_of {ws : List (List Nat)} {h g h' : Heap} {L' D : Addr} {ys : List Value} {r : List (Addr × Obj)} (hst : h.StaysIn g) (N : News g L' h' ((D, lst ys) :: r)) (hS : StrsAre ys (ws.map S)) : StrList ws h h' (.ref D) := by
  refine ⟨D, ys, rfl, (N _ (.head _)).1, ?_, hS⟩
  cases e : h.get? D with
  | none => rfl
  | some o => have := (N _ (.head _)).2.2; rw [hst _ _ e] at this; cases this
theorem parseL_no {v : List Nat} {ws : List Str} {item : Str} {esc quo : Bool} (h : plRun (KStt.codes (S v)) = (ws, item, esc, quo)) (hq : quo = true) : parseL v = [] := by
  unfold parseL; rw [h, hq]; rfl
theorem parseL_yes {v : List Nat} {ws : List Str} {item : Str} {esc quo : Bool} (h : plRun (KStt.codes (S v)) = (ws, item, esc, quo)) (hq : quo = false) : parseL v = (((unS (ws ++ [item])).map strip2).filter fun l => !l.isEmpty).map unq := by
  unfold parseL; rw [h, hq]; rfl
theorem pl_ret {Q : Value → Shared → Prop} {v : List Nat} {s : Shared} {g h' : Heap} {L' D : Addr} {m' : Str → Option Value} {ys : List Value} {r : List (Addr × Obj)} {tk : Nat} (ret : ∀ (r : Value) (h' : Heap) (tk' : Nat), s.heap.StaysIn h' → StrList (parseL v) s.heap h' r → Q r { s with heap := h', toks := tk' })
    (hst : s.heap.StaysIn g) (F : Fr g L' h' m') (N : News g L' h' ((D, lst ys) :: r)) (hS : StrsAre ys ((parseL v).map S)) : Q (.ref D) { s with heap := h', toks := tk } :=
  ret _ _ _ (stays_end hst F) (strList_of hst N hS)
set_option maxRecDepth 100000 in
set_option maxHeartbeats 8000000 in
theorem con_plist (w : World) (mean : ExcName → Option Value) (mg mb : Str → Option Value) (v : List Nat) (tv : Tok) (hv : v.length ≤ 500) :
    Con w mean mg mb 3 TabFull 66 [.str (S v) tv] [] (StrList (parseL v)) := by
  intro dp un gd cn cs a ccd cl outer A₀ base h₀ L m s Q E B F X T hp hk hdp hu ret
  have hS : (S v).length ≤ 500 := by rw [S_len]; exact hv
  (k_with "pyIter str" => walk_at "my plloop")
  refine wpAny_call ?_
  walk_at "my enterP"
  walk_at "my steps"
  · exact pl_ret (ys := []) ret (by assumption) (by assumption) (by assumption) (by rw [parseL_no (by assumption) (by assumption)]; exact .nil)
  · exact pl_ret ret (by assumption) (by assumption) (by assumption) (by rw [parseL_yes (by assumption) (by assumption)]; assumption)
end Mine
end
section
open PySem PySem.W PyProof.Rows PySem.Calls PySem.Spec
namespace Mine
open LCg LCt
section
local macro_rules | `(tactic| walk_at "my enterP") => `(tactic| k_dflt (refine' enter_plain ?k1 ?k2 ?k3 ?k5 ?kA ?kF ?kK ?k6 ?k7 ?k8 ?k9 ?kB ?kL ?_ ?c2 ?c3 ?c4 ?c5; (case kA => exact rfl); (case kF => exact rfl); (case kK => assumption); (case k1 => k_asm); (case k2 => k_asm); (case k3 => k_asm); (case k5 => k_asm); (case k6 => k_is); (case k7 => k_is); (case k8 => ktr_room); (case k9 => exact BindsTo.of_eq rfl); (case c5 => decide); (case kB => exact locs rfl); (case kL => exact ⟨_, _, rfl⟩); (case c2 => exact rfl); (case c3 => exact rfl); (case c4 => exact rfl); k_whole; intro g' L' h' tk' htk' hst' FG' F' N' B' X' T'; (try dsimp only); (try k_lift B'); (try k_fold)))
local macro_rules | `(tactic| walk_at "execs cons") => `(tactic| (k_here; (with_reducible refine execs_cons_tk (by first | assumption | (dsimp only; omega)) ?_); try dsimp only))
local macro_rules | `(tactic| walk_at "execs nil") => `(tactic| (k_here; (with_reducible refine wpAny_execs_nil ?_); try dsimp only))
local macro_rules | `(tactic| walk_at "my steps") => `(tactic| repeat' (first | (k_unfold; (try dsimp only)) | walk1 | (dsimp only; walk1) | (leave1; (try dsimp only)) | fail "no step"))
local macro_rules | `(tactic| walk_at "eval ListComp") => `(tactic| (k_here; first
  | k_dflt ((with_reducible refine' LCt.ListComp_T ?kF ?k1 ?k2 ?k3 ?k4 ?k5 ?_ ?ks); (case kF => k_asm); (case k1 => with_unfolding_all rfl); (case k2 => decide); (case k3 => rfl); (case k4 => decide); (case k5 => rfl); (case ks => intro _; rfl))
  | k_dflt ((with_reducible refine' LCg.ListComp_U ?kF ?k1 ?k2 ?k3 ?k4 ?k5 ?_ ?ks); (case kF => k_asm); (case k1 => with_unfolding_all rfl); (case k2 => decide); (case k3 => rfl); (case k4 => decide); (case k5 => rfl); (case ks => intro _; rfl))))
local macro_rules | `(tactic| walk_at "exec Assign cons ListComp") => `(tactic| (k_here; k_dflt (refine LCg.Assign_ListComp_U (F₀ := by k_asm) (by rfl) (by with_unfolding_all rfl) (by with_unfolding_all rfl) (by decide) (by rfl) (by decide) (by rfl) (by rfl) (by rfl) ?_)))
local macro_rules | `(tactic| walk_at "MapEl") => `(tactic| exact ⟨⟨_, rfl⟩, rfl⟩)
local macro_rules | `(tactic| walk_at "CompEnd") => `(tactic| (k_here; k_dflt (refine' CompEnd.intro ?kF ?kN _ (fun p hp => hp) ?kO trivial ?_; (case kF => k_asm); (case kN => k_asm); (case kO => first | assumption | (simp only [LCg.Off3, and_true]; assumption) | trivial))))
local macro_rules | `(tactic| walk_at "LeaveK") => `(tactic| (k_here; k_dflt (refine' leaveK_ ?k1 ?k2 ?_; (case k1 => k_asm); (case k2 => k_asm)); intro kF kN; (try dsimp only)))
theorem call_quote {w : World} {mean : ExcName → Option Value} {mg mb : Str → Option Value} {A : Around} {dp un : Nat} {gd : Option (List Code)} {cn : Str} {cs : Scope} {a : Addr} {ccd : Value} {cl : List (Str × Addr)} {outer : List Env} {A₀ : Around} {base h₀ : Heap} {L : Addr} {m : Str → Option Value} {s : Shared} {Q E : Value → Shared → Prop} {news : List (Addr × Obj)} {v : List Nat} {tv : Tok}
    (hA : A = ktrTop dp un gd cn cs L a ccd cl outer) (F : Fr h₀ L s.heap m) (B : Below A₀ base outer h₀) (X : (hd.heap_39 w.params).In h₀) (T : Top topProg LO mean mg mb h₀) (N : News h₀ L s.heap news) (hk : cs.kind = .function) (hd : dp + 1 < recursionLimit) (hu : un + 8 < cLine) (hv : v.length ≤ 20)
    (ret : ∀ t h' tk', Fr h₀ L h' m → News h₀ L h' news → Q (.str (S (quote v)) t) { s with heap := h', toks := tk' }) :
    wpAny (model PG w) A (call (.ref 37) [.str (S v) tv]) Q E s := by
  subst hA
  exact con_val (con_quote w mean mg mb v tv (by omega)) B F X T N trivial hk hd (by omega) fun v' h' tk' F' N' ⟨t, e⟩ => e ▸ ret t h' tk' F' N'
local macro_rules | `(tactic| walk_at "call ref") => `(tactic| (k_here; (try dsimp only [List.cons_append, List.nil_append]); k_dflt (refine' call_quote ?kA ?kF ?kB ?kX ?kT ?kN ?kk ?kd ?ku ?kv ?_; (case kA => rfl); (case kF => k_asm); (case kB => k_asm); (case kX => k_asm); (case kT => k_asm); (case kN => k_asm); (case kk => rfl); (case kd => ktr_room); (case ku => dsimp only [Around.deeper, ktrTop]; omega); (case kv => exact (by assumption : ∀ wd ∈ _, List.length wd ≤ 20) _ (by assumption))); intro t7' h7' k7' F7' N7'))
theorem fillK4 : PySem.Challenge.rw_vm0023_01 = PySem.Challenge.rw_vm0023_01 ∧ hd.heap_39 = hd.heap_39 := by
  k_fill
  exact ⟨rfl, rfl⟩
theorem le500 {ws : List (List Nat)} (h : ∀ wd ∈ ws, wd.length ≤ 20) : ∀ wd ∈ ws, wd.length ≤ 500 := fun wd hw => Nat.le_trans (h wd hw) (by decide)
theorem its_le {its : Array Value} {ws : List (List Nat)} (hS : StrsAre its.toList (ws.map S)) (hn : ws.length ≤ 4) : its.size ≤ sizeLine := by
  rw [strs_szS hS]; exact Nat.le_trans hn (by decide)
local macro_rules | `(tactic| walk_at "CompSrc") => `(tactic| (k_here; k_dflt (refine' CompSrc.base (by rfl) (by k_asm) (by k_asm) (isList_stays (by assumption) (by assumption)) (its_le (by assumption) (by assumption)) ?_; intro g'; refine' rest_mapS (f := quote) (by assumption) (.inl (isList_stays (by assumption) (by assumption))) (le500 (by assumption)) (fun wd' u' I' oI' C' oC' D' m' ys' h' tk' E' hl' hl2' hw' hC' hx' F' N' off' ne' => ?_) ?fin; (case' fin => (intro ys9' hys9'; (first | unfold FinE | unfold FinA); intro D9' h9' tk9' F9' N9' o9')))))
theorem isi_ld {prog : Program} {w : World} {A : Around} {E : Value → Shared → Prop} {s : Shared} {h g : Heap} {D : Addr} {its : Array Value} {L : Addr} {m : Str → Option Value} {Q : Value → Shared → Prop} (hp : h.IsList D its) (hst : h.StaysIn g) (F : Fr g L s.heap m)
    (k : Q (.bool false) { s with toks := s.toks + 1 }) : wpAny (model prog w) A (call (.builtin "isinstance") [.ref D, .type "dict"]) Q E s := by
  obtain ⟨o, ho, hc, _⟩ := hp
  exact IsiPair.list_dict (F.keep _ _ (hst _ _ ho)) hc k
local macro_rules | `(tactic| walk_at "call builtin:isinstance") => `(tactic| (k_here; (try dsimp only [List.cons_append, List.nil_append]); (with_reducible refine isi_ld (by assumption) (by assumption) (by assumption) ?_); (try dsimp only)))
theorem sum_le {ws : List (List Nat)} {B : Nat} (h : ∀ wd ∈ ws, wd.length ≤ B) : ((ws.map S).map (·.length)).sum ≤ ws.length * B := by
  induction ws with
  | nil => simp
  | cons x r ih =>
    have h1 := h x (.head _)
    have h2 := ih fun wd hw => h wd (.tail _ hw)
    simp only [List.map_cons, List.sum_cons, List.length_cons, S_len, Nat.succ_mul]
    omega
theorem sep_cs : Str.ofString ", " = S [44, 32] := by decide +kernel
theorem quote_bound {ws : List (List Nat)} (h : ∀ wd ∈ ws, wd.length ≤ 20) : ∀ wd ∈ ws.map quote, wd.length ≤ 42 := by
  intro wd hw
  obtain ⟨y, hy, rfl⟩ := List.mem_map.mp hw
  have := quote_len y
  have := h y hy
  omega
theorem join_call {prog : Program} {w : World} {A : Around} {E : Value → Shared → Prop} {s : Shared} {D : Addr} {ys : List Value} {ps : List (List Nat)} {t : Tok} {B : Nat} {sep : Str} {sl : List Nat} {g : Heap} {L : Addr} {r : List (Addr × Obj)} {Q : Value → Shared → Prop} (hs : sep = S sl) (hl : sl.length ≤ 16) (N : News g L s.heap ((D, lst ys) :: r)) (hi : StrsAre ys (ps.map S)) (hb : ∀ wd ∈ ps, wd.length ≤ B) (hn : ps.length * B + ps.length ≤ 1048576)
    (h : ∀ t' k, Q (.str (S (joinL sl ps)) t') { s with toks := k }) : wpAny (model prog w) A (call (.builtin "str.join") [.str sep t, .ref D]) Q E s := by
  subst hs
  refine join_listW (News.isList N (.head _)) hi (by rw [S_len]; exact hl) ?_ fun t' k => by rw [txtjoin_S]; exact h t' k
  have := sum_le hb
  rw [List.length_map]; omega
local macro_rules | `(tactic| walk_at "call builtin:str.join") => `(tactic| (k_here; (try dsimp only [List.cons_append, List.nil_append]); k_dflt (refine' join_call sep_cs (by decide) (by assumption) (by assumption) (quote_bound (by assumption)) ?hn ?_; (case hn => (rw [List.length_map]; omega)); intro t8' k8')))
set_option maxRecDepth 100000 in
set_option maxHeartbeats 8000000 in
theorem con_dump (w : World) (mean : ExcName → Option Value) (mg mb : Str → Option Value) (D : Addr) (its : Array Value) (ws : List (List Nat)) (hS : StrsAre its.toList (ws.map S)) (hn : ws.length ≤ 4) (hb : ∀ wd ∈ ws, wd.length ≤ 20) :
    Con w mean mg mb 2 (fun h => h.IsList D its) 61 [.ref D] [] (fun _ _ r => ∃ t, r = .str (S (joinL [44, 32] (ws.map quote))) t) := by
  intro dp un gd cn cs a ccd cl outer A₀ base h₀ L m s Q E B F X T hp hk hdp hu ret
  replace hp : s.heap.IsList D its := hp
  refine wpAny_call ?_
  walk_at "my enterP"
  walk_at "my steps"
  exact ret _ _ _ (stays_end (by assumption) (by assumption)) ⟨_, rfl⟩
end
end Mine
end
section
open PySem PySem.W PyProof.Rows PySem.Calls PySem.Spec
namespace Mine
abbrev RowL := List Nat × Option (List Nat)
/-- entries of a dict: keys are texts, values None or texts -/
inductive RowsAre : List (Str × Value) → List RowL → Prop
  | nil : RowsAre [] []
  | non {k : List Nat} {kvs : List (Str × Value)} {r : List RowL} : RowsAre kvs r → RowsAre ((S k, .none) :: kvs) ((k, none) :: r)
  | str {k x : List Nat} {t : Tok} {kvs : List (Str × Value)} {r : List RowL} : RowsAre kvs r → RowsAre ((S k, .str (S x) t) :: kvs) ((k, some x) :: r)
theorem RowsAre.len {kvs : List (Str × Value)} {r : List RowL} (h : RowsAre kvs r) : kvs.length = r.length := by
  induction h with
  | nil => rfl
  | non _ ih => simp [ih]
  | str _ ih => simp [ih]
theorem RowsAre.at {kvs : List (Str × Value)} {r : List RowL} (h : RowsAre kvs r) : ∀ {i : Nat} {k : Str} {v : Value}, kvs[i]? = some (k, v) → (∃ kk, r[i]? = some (kk, none) ∧ k = S kk ∧ v = .none) ∨ ∃ kk x t, r[i]? = some (kk, some x) ∧ k = S kk ∧ v = .str (S x) t := by
  induction h with
  | nil => intro i k v e; simp at e
  | @non kk kvs r _ ih =>
    intro i k v e
    cases i with
    | zero =>
      simp only [List.getElem?_cons_zero, Option.some.injEq, Prod.mk.injEq] at e
      exact .inl ⟨kk, rfl, e.1.symm, e.2.symm⟩
    | succ i => simpa using ih (by simpa using e)
  | @str kk x t kvs r _ ih =>
    intro i k v e
    cases i with
    | zero =>
      simp only [List.getElem?_cons_zero, Option.some.injEq, Prod.mk.injEq] at e
      exact .inr ⟨kk, x, t, rfl, e.1.symm, e.2.symm⟩
    | succ i => simpa using ih (by simpa using e)
/-- a key of at most eight signs, no star at its end; a value of at most twenty -/
def RowOk (r : RowL) : Prop := r.1.length ≤ 8 ∧ Txt.endswith (S r.1) (Str.ofString "*") = false ∧ ∀ x, r.2 = some x → x.length ≤ 20
section
variable {prog : Program} {w : World} {A : Around} {E : Value → Shared → Prop} {s : Shared} {env : Env} {h₀ : Heap} {body : List Stmt} {Q : Flow → Shared → Prop} {m₀ : Str → Option Value} {l' : Addr} {xk xv : Str}
def SegFin (xk xv : Str) (h₀ : Heap) (L l' : Addr) (m₀ : Str → Option Value) (own : List (Addr × Obj)) (segs : List (List Nat)) (s₁ s₂ : Shared) : Prop :=
  ∃ h' tk m' news' us num, s₂ = { s₁ with heap := h', toks := tk } ∧ Fr h₀ L h' m' ∧ News h₀ L h' news' ∧ (l', listOf us num) ∈ news' ∧ (∀ p ∈ own, p ∈ news') ∧ StrsAre us.toList (segs.map S) ∧
     (∀ z, z ≠ xk → z ≠ xv → m' z = m₀ z)
def SegEnd (xk xv : Str) (h₀ : Heap) (L l' : Addr) (m₀ : Str → Option Value) (own : List (Addr × Obj)) (segs : List (List Nat)) (s₁ : Shared) (Q : Flow → Shared → Prop) (f : Flow) (s₂ : Shared) : Prop :=
  match f with
  | .ret v => Q (.ret v) s₂
  | .brk => Q .next s₂
  | _ => SegFin xk xv h₀ L l' m₀ own segs s₁ s₂
theorem for_items {o : Expr} {pk pv pt pos apos cpos : Pos} {x1 : Nat} {d : Addr} {kvs : List (Str × Value)} {rows : List RowL} {segs0 : List (List Nat)} {us0 : Array Value} {n0 : Nat} {L : Addr} (f : RowL → List (List Nat))
    (hh : A.handled = none) (F : Fr h₀ L s.heap m₀) (N : News h₀ L s.heap [(l', listOf us0 n0)]) (hL : env.locals = L)
    (hD : h₀.DictOf (strKind prog w) d kvs) (hR : RowsAre kvs rows) (hlo : (d == sysModules) = false) (hS : StrsAre us0.toList (segs0.map S)) (hb : ∀ r ∈ rows, RowOk r) (hcap : segs0.length + (rows.flatMap f).length ≤ 500)
    (ho : ∀ Q', Q' (.ref d) s → wpAny (model prog w) A (eval o env) Q' E s)
    (turnN : ∀ (k : List Nat) (us : Array Value) (num : Nat) (segs : List (List Nat)) t h tk own, (k, none) ∈ rows → k.length ≤ 8 → (S k).length ≤ 8 → OwnOff own [l'] → StrsAre us.toList (segs.map S) → us.size ≤ 500 →
      Fr h₀ L h (fun y => if y = xv then some .none else if y = xk then some (.str (S k) t) else m₀ y) → News h₀ L h ([(l', listOf us num)] ++ own) →
      wpAny (model prog w) A (execs body env) (SegEnd xk xv h₀ L l' m₀ own (segs ++ f (k, none)) { s with heap := h, toks := tk } Q) E { s with heap := h, toks := tk })
    (turnS : ∀ (k x : List Nat) (us : Array Value) (num : Nat) (segs : List (List Nat)) t u h tk own, (k, some x) ∈ rows → k.length ≤ 8 → (S k).length ≤ 8 → x.length ≤ 20 → (S x).length ≤ 20 → Txt.endswith (S k) (Str.ofString "*") = false → OwnOff own [l'] → StrsAre us.toList (segs.map S) → us.size ≤ 500 →
      Fr h₀ L h (fun y => if y = xv then some (.str (S x) u) else if y = xk then some (.str (S k) t) else m₀ y) → News h₀ L h ([(l', listOf us num)] ++ own) →
      wpAny (model prog w) A (execs body env) (SegEnd xk xv h₀ L l' m₀ own (segs ++ f (k, some x)) { s with heap := h, toks := tk } Q) E { s with heap := h, toks := tk })
    (done : ∀ (us : Array Value) (num : Nat) (u : Str → Option Value) h tk, StrsAre us.toList ((segs0 ++ rows.flatMap f).map S) → Fr h₀ L h (fun y => if y = xv then u y else if y = xk then u y else m₀ y) →
      News h₀ L h [(l', listOf us num)] → Q .next { s with heap := h, toks := tk })
    (hxk : env.kindOf xk = some .local) (hxv : env.kindOf xv = some .local)
    (hp : (env.scope.kind == .class || (env.scope.kind == .module && env.locals != env.globals)) = false)
    (hbase : attributeBase o "items" env (eval o env) = eval o env) (hline : (apos.endLine == cpos.line) = true)
    (hs : ∀ x, foldedSetIterable (.Call (.Attribute o "items" apos) [] [] cpos) env x = pure x)
    (hE : PassesOwn (model prog w) A env E) :
    wpAny (model prog w) A (exec (.For (.Tuple [.Name xk pk, .Name xv pv] x1 pt) (.Call (.Attribute o "items" apos) [] [] cpos) body [] pos) env) Q E s := by
  subst hL
  refine For_turns (h₀ := h₀) F ?_ hs hE
  have hDs := hD.keep F.keep
  refine wpAny_Call_items (knd := strKind prog w) hlo hDs hbase hline ho ?_
  obtain ⟨ep, hat⟩ := hDs.dictAt
  obtain ⟨od, hod⟩ : ∃ od, h₀.get? d = some od := let ⟨o, _, _, e, _⟩ := hD; ⟨o, e⟩
  have dlt := hat.lt_size
  have Fp := F.push { cls := .type "dict_items", data := .fields #[.ref d] }
  have atp := hat.push { cls := .type "dict_items", data := .fields #[.ref d] }
  have Np : News h₀ env.locals (s.heap.push { cls := .type "dict_items", data := .fields #[.ref d] }) [(l', listOf us0 n0)] := fun p hp => ⟨Heap.get?_push_of_some _ (N p hp).1, (N p hp).2⟩
  refine wpAny_pyIter_items (knd := strKind prog w) ⟨_, Heap.get?_push_size _ rfl, rfl, rfl⟩ atp ?_
  generalize (s.heap.push { cls := .type "dict_items", data := .fields #[.ref d] }) = hq at Fp atp Np
  have dltq := atp.lt_size
  have hne : d ≠ hq.objs.size := Nat.ne_of_lt dltq
  have hsz : kvs.length = rows.length := hR.len
  let J : Nat → (Str → Option Value) → List (Addr × Obj) → Prop := fun i m' nx => ∃ us num segs, nx = [(l', listOf us num)] ∧ StrsAre us.toList (segs.map S) ∧ segs = segs0 ++ (rows.take i).flatMap f ∧ ∀ z, z ≠ xk → z ≠ xv → m' z = m₀ z
  refine ⟨hq.objs.size, [hq.objs.size, d], [hq.objs.size], kvs.length, _, _, _, m₀, [(l', listOf us0 n0)], J, rfl, kti_itemsTurns (knd := strKind prog w) hh hq.objs.size d hne kvs ep, ?_, ?_, ?_, ?_, Fp.push _, ?_, ?_, ?_, ?_⟩
  · intro hm
    simp only [List.mem_cons, List.not_mem_nil, or_false] at hm
    rcases hm with e | e
    · exact absurd Fp.ns.lt (e ▸ Nat.lt_irrefl _)
    · exact absurd (Heap.lt_size hod) (Nat.not_lt.mpr (e ▸ Fp.above))
  · intro b hb
    rw [List.mem_singleton.mp hb]; exact next_is_new Fp
  · intro p hp hI
    exact absurd (Heap.lt_size (Np p hp).1) ((List.mem_singleton.mp hI) ▸ Nat.lt_irrefl _)
  · exact ⟨⟨.none, .none, Heap.get?_push_size _ rfl⟩, atp.push _⟩
  · exact fun p hp => ⟨Heap.get?_push_of_some _ (Np p hp).1, (Np p hp).2⟩
  · exact ⟨us0, n0, segs0, rfl, hS, by simp, fun _ _ _ => rfl⟩
  · rintro i v m₁ news₁ h₁ tk₁ own hin ⟨T, key, k, x, rfl, hx, hkey, hT⟩ ⟨us, num, segs, rfl, hSs, hsegs, hm₁⟩ hnw₁ hown hget hall hst₁ F₁ N₁
    refine wpAny_assign_Tuple hh hT rfl rfl fun h₃ hx₃ => ?_
    replace hx₃ : Heap.ExtBut h₁.objs.size h₁ h₃ := hx₃
    have up₃ : ∀ b o, h₁.get? b = some o → h₃.get? b = some o := fun b o e => hx₃ b o (Nat.ne_of_lt (Heap.lt_size e)) e
    have F₃ : Fr h₀ env.locals h₃ m₁ := ⟨F₁.ns.at fun o x => up₃ _ o x, fun b o e => up₃ b o (F₁.keep b o e), F₁.above⟩
    have N₃ : News h₀ env.locals h₃ (own ++ [(l', listOf us num)]) := fun p hp => ⟨up₃ _ _ (N₁ p hp).1, (N₁ p hp).2⟩
    show wpAny _ _ (do holding [x] (assign (.Name xk pk) env key); do holding [] (assign (.Name xv pv) env x); pure ()) _ _ _
    refine wpAny_bind (wpAny_holding (wpAny_assign_Name (wpAny_storeName_local hxk F₃.ns (fun h₄ hn₄ hs₄ => ?_) hp)))
    replace hs₄ : Heap.SameBut env.locals h₃ h₄ := hs₄
    have F₄ := F₃.set hn₄ hs₄
    refine wpAny_bind (wpAny_holding (wpAny_assign_Name (wpAny_storeName_local hxv F₄.ns (fun h₅ hn₅ hs₅ => wpAny_pure ?_) hp)))
    replace hs₅ : Heap.SameBut env.locals h₄ h₅ := hs₅
    have F₅ := F₄.set hn₅ hs₅
    have N₅ : News h₀ env.locals h₅ (own ++ [(l', listOf us num)]) := (N₃.set hs₄).set hs₅
    have N₆ : News h₀ env.locals h₅ ([(l', listOf us num)] ++ own) := fun p hp => N₅ p ((List.mem_append.mp hp).elim (fun h => List.mem_append.mpr (.inr h)) fun h => List.mem_append.mpr (.inl h))
    have hoff : OwnOff own [l'] := by
      intro p hp b hb e
      rw [List.mem_singleton.mp hb] at e
      have h1 := hown p hp
      simp only [List.mem_cons, List.not_mem_nil, or_false] at h1
      rcases h1 with h1 | h1
      · exact hnw₁ _ (.head _) (by rw [← e, h1]; exact .head _)
      · have h2 := (N₁ _ (List.mem_append_right _ (.head _))).2.2
        rw [← e, h1, hod] at h2; cases h2
    have hlr : i < rows.length := hsz ▸ hin
    have frm : ∀ u t', x = u → key = t' → Fr h₀ env.locals h₅ (fun y => if y = xv then some u else if y = xk then some t' else m₀ y) := by
      intro u t' e1 e2
      subst e1 e2
      have e : (fun y => if y = xv then some x else if y = xk then some key else m₀ y) = fun y => if y = xv then some x else if y = xk then some key else m₁ y := funext fun y => by
        by_cases h1 : y = xv
        · simp [h1]
        · by_cases h2 : y = xk
          · simp [h2]
          · simp [h1, h2, hm₁ y h2 h1]
      rw [e]; exact F₅
    have hle : segs.length ≤ segs0.length + (rows.flatMap f).length := by
      rw [hsegs, List.length_append]
      have : ((rows.take i).flatMap f).length ≤ (rows.flatMap f).length := by
        conv => rhs; rw [← List.take_append_drop i rows, List.flatMap_append, List.length_append]
        omega
      omega
    have fin : ∀ (r : RowL) (s₁ s₂ : Shared) , rows[i]? = some r → SegFin xk xv h₀ env.locals l' m₀ own (segs ++ f r) s₁ s₂ → LoopStepU h₀ env.locals [hq.objs.size] own (J (i + 1)) s₁ .next s₂ := by
      rintro r s₁ s₂ hr ⟨h', tk, m', news', us', num', rfl, F', N', h1, h2, h3, h4⟩
      refine ⟨rfl, h', tk, m', [(l', listOf us' num')], rfl, F', ?_, ?_, us', num', segs ++ f r, rfl, h3, ?_, h4⟩
      · intro p hp
        rcases List.mem_append.mp hp with hp | hp
        · exact N' p (h2 p hp)
        · rw [List.mem_singleton.mp hp]; exact N' _ h1
      · intro p hp hI
        rw [List.mem_singleton.mp hp] at hI
        exact hnw₁ _ (.head _) hI
      · rw [hsegs, List.take_add_one, hr]; simp
    have hus : us.size ≤ 500 := by
      have := StrsAre.len_eq hSs
      rw [List.length_map, Array.length_toList] at this
      omega
    rcases hR.at hx with ⟨kk, hr, rfl, rfl⟩ | ⟨kk, y, t, hr, rfl, rfl⟩
    · obtain ⟨t, rfl⟩ := Value.isStrOf_shape hkey
      refine wpAny_mono (turnN kk us num segs t h₅ _ own (List.mem_of_getElem? hr) (hb _ (List.mem_of_getElem? hr)).1 (by rw [S_len]; exact (hb _ (List.mem_of_getElem? hr)).1) hoff hSs hus (frm _ _ rfl rfl) N₆) (fun fl s₂ hq' => ?_) fun _ _ e => e
      cases fl with
      | ret v => exact .ret hq'
      | brk => exact .brk hq'
      | next => exact .next (fin _ _ _ hr hq')
      | cont => exact .cont (fin _ _ _ hr hq')
    · obtain ⟨t', rfl⟩ := Value.isStrOf_shape hkey
      refine wpAny_mono (turnS kk y us num segs t' t h₅ _ own (List.mem_of_getElem? hr) (hb _ (List.mem_of_getElem? hr)).1 (by rw [S_len]; exact (hb _ (List.mem_of_getElem? hr)).1) ((hb _ (List.mem_of_getElem? hr)).2.2 _ rfl) (by rw [S_len]; exact (hb _ (List.mem_of_getElem? hr)).2.2 _ rfl) (hb _ (List.mem_of_getElem? hr)).2.1 hoff hSs hus (frm _ _ rfl rfl) N₆) (fun fl s₂ hq' => ?_) fun _ _ e => e
      cases fl with
      | ret v => exact .ret hq'
      | brk => exact .brk hq'
      | next => exact .next (fin _ _ _ hr hq')
      | cont => exact .cont (fin _ _ _ hr hq')
  · rintro h' tk m' news' F' N' hnw' ⟨us, num, segs, rfl, hSs, hsegs, hm'⟩
    rw [List.take_of_length_le (by omega)] at hsegs
    subst hsegs
    have e : (fun y => if y = xv then m' y else if y = xk then m' y else m₀ y) = m' := funext fun y => by
      by_cases h1 : y = xv
      · simp [h1]
      · by_cases h2 : y = xk
        · simp [h2]
        · simp [h1, h2, hm' y h2 h1]
    exact done us num m' h' tk hSs (by rw [e]; exact F') N'
end
end Mine
end
section
open PySem PySem.W PyProof.Rows PySem.Calls PySem.Spec
namespace Mine
open LCg LCt
section
local macro_rules | `(tactic| walk_at "my enterP") => `(tactic| k_dflt (refine' enter_plain ?k1 ?k2 ?k3 ?k5 ?kA ?kF ?kK ?k6 ?k7 ?k8 ?k9 ?kB ?kL ?_ ?c2 ?c3 ?c4 ?c5; (case kA => exact rfl); (case kF => exact rfl); (case kK => assumption); (case k1 => k_asm); (case k2 => k_asm); (case k3 => k_asm); (case k5 => k_asm); (case k6 => k_is); (case k7 => k_is); (case k8 => ktr_room); (case k9 => exact BindsTo.of_eq rfl); (case c5 => decide); (case kB => exact locs rfl); (case kL => exact ⟨_, _, rfl⟩); (case c2 => exact rfl); (case c3 => exact rfl); (case c4 => exact rfl); k_whole; intro g' L' h' tk' htk' hst' FG' F' N' B' X' T'; (try dsimp only); (try k_lift B'); (try k_fold)))
local macro_rules | `(tactic| walk_at "execs cons") => `(tactic| (k_here; (with_reducible refine execs_cons_tk (by first | assumption | (dsimp only; omega)) ?_); try dsimp only))
local macro_rules | `(tactic| walk_at "execs nil") => `(tactic| (k_here; (with_reducible refine wpAny_execs_nil ?_); try dsimp only))
local macro_rules | `(tactic| walk_at "my steps") => `(tactic| repeat' (first | (k_unfold; (try dsimp only)) | walk1 | (dsimp only; walk1) | (leave1; (try dsimp only)) | fail "no step"))
local macro_rules | `(tactic| walk_at "LeaveK") => `(tactic| (k_here; k_dflt (refine' leaveK_ ?k1 ?k2 ?_; (case k1 => k_asm); (case k2 => k_asm)); intro kF kN; (try dsimp only)))

theorem call_quoteB {w : World} {mean : ExcName → Option Value} {mg mb : Str → Option Value} {A : Around} {dp un : Nat} {gd : Option (List Code)} {cn : Str} {cs : Scope} {a : Addr} {ccd : Value} {cl : List (Str × Addr)} {outer : List Env} {A₀ : Around} {base h₀ : Heap} {L : Addr} {m : Str → Option Value} {s : Shared} {Q E : Value → Shared → Prop} {news : List (Addr × Obj)} {v : List Nat} {tv : Tok}
    (hA : A = ktrTop dp un gd cn cs L a ccd cl outer) (F : Fr h₀ L s.heap m) (B : Below A₀ base outer h₀) (X : (hd.heap_39 w.params).In h₀) (T : Top topProg LO mean mg mb h₀) (N : News h₀ L s.heap news) (hk : cs.kind = .function) (hd : dp + 1 < recursionLimit) (hu : un + 8 < cLine) (hv : v.length ≤ 20)
    (ret : ∀ t h' tk', (S (quote v)).length ≤ 42 → Fr h₀ L h' m → News h₀ L h' news → Q (.str (S (quote v)) t) { s with heap := h', toks := tk' }) :
    wpAny (model PG w) A (call (.ref 37) [.str (S v) tv]) Q E s :=
  call_quote hA F B X T N hk hd hu hv fun t h' tk' F' N' => ret t h' tk' (by rw [S_len]; have := quote_len v; omega) F' N'
local macro_rules | `(tactic| walk_at "call ref") => `(tactic| (k_here; (try dsimp only [List.cons_append, List.nil_append]); k_dflt (refine' call_quoteB ?kA ?kF ?kB ?kX ?kT ?kN ?kk ?kd ?ku ?kv ?_; (case kA => rfl); (case kF => k_asm); (case kB => k_asm); (case kX => k_asm); (case kT => k_asm); (case kN => k_asm); (case kk => rfl); (case kd => ktr_room); (case ku => dsimp only [Around.deeper, ktrTop]; omega); (case kv => assumption)); intro t7' h7' k7' hq7' F7' N7'))
theorem fillK5 : PySem.Challenge.rw_vm0023_01 = PySem.Challenge.rw_vm0023_01 ∧ hd.heap_39 = hd.heap_39 := by
  k_fill
  exact ⟨rfl, rfl⟩
theorem isi_dd {prog : Program} {w : World} {A : Around} {E : Value → Shared → Prop} {s : Shared} {h g : Heap} {D : Addr} {kvs : List (Str × Value)} {L : Addr} {m : Str → Option Value} {Q : Value → Shared → Prop} (hp : h.DictOf (PySem.strKind PG w) D kvs) (hst : h.StaysIn g) (F : Fr g L s.heap m)
    (k : Q (.bool true) s) : wpAny (model prog w) A (call (.builtin "isinstance") [.ref D, .type "dict"]) Q E s := by
  obtain ⟨o, _, _, ho, hc, _⟩ := hp
  exact IsiPair.dict_dict (F.keep _ _ (hst _ _ ho)) hc.1 k
local macro_rules | `(tactic| walk_at "call builtin:isinstance") => `(tactic| (k_here; (try dsimp only [List.cons_append, List.nil_append]); (with_reducible refine isi_dd (by assumption) (by assumption) (by assumption) ?_); (try dsimp only)))
theorem star_call {prog : Program} {w : World} {A : Around} {E : Value → Shared → Prop} {s : Shared} {x y : Str} {t u : Tok} {Q : Value → Shared → Prop} (h : Txt.endswith x y = false) (k : Q (.bool false) s) :
    wpAny (model prog w) A (call (.builtin "str.endswith") [.str x t, .str y u]) Q E s := SC.endswith (by rw [h]; exact k)
local macro_rules | `(tactic| walk_at "call builtin:str.endswith") => `(tactic| (k_here; (try dsimp only [List.cons_append, List.nil_append]); (with_reducible refine star_call (by assumption) ?_); (try dsimp only)))
def segH (r : RowL) : List (List Nat) := match r.2 with
  | none => [r.1]
  | some x => [r.1 ++ [61] ++ quote x]
theorem seg_one {us : Array Value} {segs : List (List Nat)} {x : Str} {y : List Nat} {t : Tok} (h : StrsAre us.toList (segs.map S)) (e : x = S y) : StrsAre (us.push (.str x t)).toList ((segs ++ [y]).map S) := by
  rw [Array.toList_push, List.map_append, e]; exact h.append' (.cons _ _ .nil)
theorem seg_eq (k x : List Nat) : Str.empty ++ S k ++ Str.ofString "=" ++ S (quote x) = S (k ++ [61] ++ quote x) := by
  have e1 : Str.ofString "=" = S [61] := by decide +kernel
  have e2 : Str.empty = S [] := rfl
  rw [e1, e2, S_app, S_app, S_app]; rfl
local macro_rules | `(tactic| walk_at "SegEnd") => `(tactic| (k_here; show SegFin _ _ _ _ _ _ _ _ _ _; k_dflt (refine' ⟨_, _, _, _, _, _, rfl, by assumption, by assumption, ?m, ?o, ?sa, ?e4⟩; (case e4 => (intro z h1 h2; simp only [h1, h2, if_false])); (case m => ((try dsimp only); exact pl_mem)); (case o => exact fun p hp => List.mem_append_right _ hp); (case sa => first | exact seg_one (by assumption) rfl | exact seg_one (by assumption) (seg_eq _ _)))))
local macro_rules | `(tactic| walk_at "call builtin:list.append") => `(tactic| (k_here; (try dsimp only [List.cons_append, List.nil_append]); first | (refine app_hd (by assumption) (by assumption) (by assumption) (by assumption) ?_; intro h8' F8' N8') | (refine app_one (by assumption) (by assumption) (by assumption) ?_; intro h8' F8' N8')))
theorem join_callL {prog : Program} {w : World} {A : Around} {E : Value → Shared → Prop} {s : Shared} {D : Addr} {us : Array Value} {num : Nat} {ps : List (List Nat)} {t : Tok} {sep : Str} {sl : List Nat} {g : Heap} {L : Addr} {Q : Value → Shared → Prop} (hs : sep = S sl) (hl : sl.length ≤ 16) (N : News g L s.heap [(D, listOf us num)]) (hi : StrsAre us.toList (ps.map S)) (hb : ∀ wd ∈ ps, wd.length ≤ 60) (hn : ps.length * 60 + ps.length ≤ 1048576)
    (h : ∀ t' k, Q (.str (S (joinL sl ps)) t') { s with toks := k }) : wpAny (model prog w) A (call (.builtin "str.join") [.str sep t, .ref D]) Q E s := by
  subst hs
  refine join_listW (News.isList N (.head _)) hi (by rw [S_len]; exact hl) ?_ fun t' k => by rw [txtjoin_S]; exact h t' k
  have := sum_le hb
  rw [List.length_map]; omega
theorem segH_len {r : RowL} (h : RowOk r) : ∀ wd ∈ segH r, wd.length ≤ 60 := by
  obtain ⟨k, o⟩ := r
  intro wd hw
  cases o with
  | none => rw [List.mem_singleton.mp hw]; exact Nat.le_trans h.1 (by decide)
  | some x =>
    rw [List.mem_singleton.mp hw]
    have h1 := h.1
    have h2 := h.2.2 x rfl
    have h3 := quote_len x
    simp only [List.length_append, List.length_singleton] at h1 ⊢
    omega
theorem segsH_len {rows : List RowL} (h : ∀ r ∈ rows, RowOk r) : ∀ wd ∈ rows.flatMap segH, wd.length ≤ 60 := by
  intro wd hw
  obtain ⟨r, hr, hw⟩ := List.mem_flatMap.mp hw
  exact segH_len (h r hr) wd hw
theorem segsH_cnt (rows : List RowL) : (rows.flatMap segH).length = rows.length := by
  induction rows with
  | nil => rfl
  | cons r rs ih =>
    obtain ⟨k, o⟩ := r
    rw [List.flatMap_cons, List.length_append, ih]
    have : (segH (k, o)).length = 1 := by cases o <;> rfl
    rw [this, List.length_cons]; omega
local macro_rules | `(tactic| walk_at "call builtin:str.join") => `(tactic| (k_here; (try dsimp only [List.cons_append, List.nil_append]); k_dflt (refine' join_callL sep_cs (by decide) (by assumption) (by assumption) ?hb ?hn ?_; (case hb => (rw [List.nil_append]; exact segsH_len (by assumption))); (case hn => (rw [List.nil_append, segsH_cnt]; omega)); intro t8' k8')))
local macro_rules | `(tactic| walk_at "exec For Tuple Call cons nil") => `(tactic| (k_here; k_dflt (refine' for_items (f := segH) (segs0 := []) ?hh ?F ?N ?hL ?hD ?hR ?hlo ?hS ?hb ?hcap ?ho ?tN ?tS ?dn ?k1 ?k2 ?k3 ?k4 ?k5 ?k6 ?k7; (case F => k_asm); (case N => k_asm); (case hh => rfl); (case hL => rfl); (case ho => exact fun Q' hq => ld (by assumption) (by with_unfolding_all rfl) hq); (case hD => exact Heap.DictOf.keep (by assumption) (by assumption)); (case hR => assumption); (case hlo => assumption); (case hS => exact .nil); (case hb => assumption); (case hcap => (rw [segsH_cnt]; simp only [List.length_nil]; omega)); (case k1 => rfl); (case k2 => rfl); (case k3 => rfl); (case k4 => rfl); (case k5 => rfl); (case k6 => intro _; rfl); (case k7 => passes_own)); (case' tN => intro k9' us9' num9' segs9' t9' h9' tk9' own9' hm9' hk9' hK9' hoff9' hS9' hsz9' F9' N9'); (case' tS => intro k9' x9' us9' num9' segs9' t9' u9' h9' tk9' own9' hm9' hk9' hK9' hx9' hX9' hst9' hoff9' hS9' hsz9' F9' N9'); (case' dn => intro us9' num9' u9' h9' tk9' hS9' F9' N9')))
set_option maxRecDepth 100000 in
set_option maxHeartbeats 8000000 in
theorem con_dumpd (w : World) (mean : ExcName → Option Value) (mg mb : Str → Option Value) (D : Addr) (kvs : List (Str × Value)) (rows : List RowL) (hlo : (D == sysModules) = false) (hR : RowsAre kvs rows) (hn : rows.length ≤ 4) (hb : ∀ r ∈ rows, RowOk r) :
    Con w mean mg mb 2 (fun h => h.DictOf (PySem.strKind PG w) D kvs) 61 [.ref D] [] (fun _ _ r => ∃ t, r = .str (S (joinL [44, 32] (rows.flatMap segH))) t) := by
  intro dp un gd cn cs a ccd cl outer A₀ base h₀ L m s Q E B F X T hp hk hdp hu ret
  replace hp : s.heap.DictOf (PySem.strKind PG w) D kvs := hp
  refine wpAny_call ?_
  walk_at "my enterP"
  w_on
  walk_at "my steps"
  exact ret _ _ _ (stays_end (by assumption) (by assumption)) ⟨_, rfl⟩
end
end Mine
end
section
open PySem PySem.W PyProof.Rows PySem.Calls PySem.Spec
namespace Mine
open LCg LCt
section
local macro_rules | `(tactic| walk_at "my enterP") => `(tactic| k_dflt (refine' enter_plain ?k1 ?k2 ?k3 ?k5 ?kA ?kF ?kK ?k6 ?k7 ?k8 ?k9 ?kB ?kL ?_ ?c2 ?c3 ?c4 ?c5; (case kA => exact rfl); (case kF => exact rfl); (case kK => assumption); (case k1 => k_asm); (case k2 => k_asm); (case k3 => k_asm); (case k5 => k_asm); (case k6 => k_is); (case k7 => k_is); (case k8 => ktr_room); (case k9 => exact BindsTo.of_eq rfl); (case c5 => decide); (case kB => exact locs rfl); (case kL => exact ⟨_, _, rfl⟩); (case c2 => exact rfl); (case c3 => exact rfl); (case c4 => exact rfl); k_whole; intro g' L' h' tk' htk' hst' FG' F' N' B' X' T'; (try dsimp only); (try k_lift B'); (try k_fold)))
local macro_rules | `(tactic| walk_at "execs cons") => `(tactic| (k_here; (with_reducible refine execs_cons_tk (by first | assumption | (dsimp only; omega)) ?_); try dsimp only))
local macro_rules | `(tactic| walk_at "execs nil") => `(tactic| (k_here; (with_reducible refine wpAny_execs_nil ?_); try dsimp only))
local macro_rules | `(tactic| walk_at "my steps") => `(tactic| repeat' (first | (k_unfold; (try dsimp only)) | walk1 | (dsimp only; walk1) | (leave1; (try dsimp only)) | fail "no step"))
local macro_rules | `(tactic| walk_at "LeaveK") => `(tactic| (k_here; k_dflt (refine' leaveK_ ?k1 ?k2 ?_; (case k1 => k_asm); (case k2 => k_asm)); intro kF kN; (try dsimp only)))

local macro_rules | `(tactic| walk_at "call ref") => `(tactic| (k_here; (try dsimp only [List.cons_append, List.nil_append]); k_dflt (refine' call_quoteB ?kA ?kF ?kB ?kX ?kT ?kN ?kk ?kd ?ku ?kv ?_; (case kA => rfl); (case kF => k_asm); (case kB => k_asm); (case kX => k_asm); (case kT => k_asm); (case kN => k_asm); (case kk => rfl); (case kd => ktr_room); (case ku => dsimp only [Around.deeper, ktrTop]; omega); (case kv => assumption)); intro t7' h7' k7' hq7' F7' N7'))
theorem fillK6 : PySem.Challenge.rw_vm0023_01 = PySem.Challenge.rw_vm0023_01 ∧ hd.heap_39 = hd.heap_39 := by
  k_fill
  exact ⟨rfl, rfl⟩
local macro_rules | `(tactic| walk_at "call builtin:str.endswith") => `(tactic| (k_here; (try dsimp only [List.cons_append, List.nil_append]); (with_reducible refine star_call (by assumption) ?_); (try dsimp only)))
def segO (r : RowL) : List (List Nat) := match r.2 with
  | none => []
  | some x => [r.1 ++ [61] ++ quote x]
theorem seg_zero {us : Array Value} {segs : List (List Nat)} {y : List (List Nat)} (h : StrsAre us.toList (segs.map S)) (e : y = []) : StrsAre us.toList ((segs ++ y).map S) := by
  rw [e, List.append_nil]; exact h
local macro_rules | `(tactic| walk_at "SegEnd") => `(tactic| (k_here; show SegFin _ _ _ _ _ _ _ _ _ _; k_dflt (refine' ⟨_, _, _, _, _, _, rfl, by assumption, by assumption, ?m, ?o, ?sa, ?e4⟩; (case e4 => (intro z h1 h2; simp only [h1, h2, if_false])); (case m => ((try dsimp only); exact pl_mem)); (case o => exact fun p hp => List.mem_append_right _ hp); (case sa => first | exact seg_zero (by assumption) rfl | exact seg_one (by assumption) (seg_eq _ _)))))
local macro_rules | `(tactic| walk_at "call builtin:list.append") => `(tactic| (k_here; (try dsimp only [List.cons_append, List.nil_append]); first | (refine app_hd (by assumption) (by assumption) (by assumption) (by assumption) ?_; intro h8' F8' N8') | (refine app_one (by assumption) (by assumption) (by assumption) ?_; intro h8' F8' N8')))
theorem segO_len {r : RowL} (h : RowOk r) : ∀ wd ∈ segO r, wd.length ≤ 60 := by
  obtain ⟨k, o⟩ := r
  intro wd hw
  cases o with
  | none => exact absurd hw (by simp [segO])
  | some x =>
    rw [List.mem_singleton.mp hw]
    have h1 := h.1
    have h2 := h.2.2 x rfl
    have h3 := quote_len x
    simp only [List.length_append, List.length_singleton] at h1 ⊢
    omega
theorem segsO_len {rows : List RowL} {hs : List (List Nat)} (h : ∀ r ∈ rows, RowOk r) (hh : ∀ wd ∈ hs, wd.length ≤ 60) : ∀ wd ∈ hs ++ rows.flatMap segO, wd.length ≤ 60 := by
  intro wd hw
  rcases List.mem_append.mp hw with hw | hw
  · exact hh wd hw
  · obtain ⟨r, hr, hw⟩ := List.mem_flatMap.mp hw
    exact segO_len (h r hr) wd hw
theorem segsO_cnt (rows : List RowL) : (rows.flatMap segO).length ≤ rows.length := by
  induction rows with
  | nil => exact Nat.le_refl _
  | cons r rs ih =>
    obtain ⟨k, o⟩ := r
    rw [List.flatMap_cons, List.length_append]
    have : (segO (k, o)).length ≤ 1 := by cases o <;> simp [segO]
    rw [List.length_cons]; omega
theorem segsO_cap {rows : List RowL} {hs : List (List Nat)} (hn : rows.length ≤ 4) (hh : hs.length ≤ 1) : hs.length + (rows.flatMap segO).length ≤ 5 := by
  have := segsO_cnt rows
  omega
theorem segsO_join {rows : List RowL} {hs : List (List Nat)} (hn : rows.length ≤ 4) (hh : hs.length ≤ 1) : (hs ++ rows.flatMap segO).length * 60 + (hs ++ rows.flatMap segO).length ≤ 1048576 := by
  have := segsO_cap hn hh
  rw [List.length_append]; omega
theorem sep_sc : Str.ofString "; " = S [59, 32] := by decide +kernel
theorem strs_one {x : List Nat} {t : Tok} : StrsAre (#[Value.str (S x) t]).toList ([x].map S) := .cons _ _ .nil
theorem strs_none : StrsAre ((#[] : Array Value)).toList (([] : List (List Nat)).map S) := .nil
theorem one_len {x : List Nat} (h : x.length ≤ 20) : ∀ wd ∈ [x], wd.length ≤ 60 := fun wd hw => by rw [List.mem_singleton.mp hw]; omega
theorem no_len : ∀ wd ∈ ([] : List (List Nat)), wd.length ≤ 60 := fun wd hw => nomatch hw
local macro_rules | `(tactic| walk_at "call builtin:str.join") => `(tactic| (k_here; (try dsimp only [List.cons_append, List.nil_append]); k_dflt (refine' join_callL sep_sc (by decide) (by assumption) (by assumption) ?hb ?hn ?_; (case hb => first | exact segsO_len (by assumption) (one_len (by assumption)) | exact segsO_len (by assumption) no_len); (case hn => first | exact segsO_join (by assumption) (Nat.le_refl _) | exact segsO_join (by assumption) (Nat.zero_le _)); intro t8' k8')))
local macro_rules | `(tactic| walk_at "exec For Tuple Call cons nil") => `(tactic| (k_here; k_dflt (refine' for_items (f := segO) ?hh ?F ?N ?hL ?hD ?hR ?hlo ?hS ?hb ?hcap ?ho ?tN ?tS ?dn ?k1 ?k2 ?k3 ?k4 ?k5 ?k6 ?k7; (case F => k_asm); (case N => k_asm); (case hh => rfl); (case hL => rfl); (case ho => exact fun Q' hq => ld (by assumption) (by with_unfolding_all rfl) hq); (case hD => exact Heap.DictOf.keep (by assumption) (by assumption)); (case hR => assumption); (case hlo => assumption); (case hS => first | exact strs_one | exact strs_none); (case hb => assumption); (case hcap => first | exact Nat.le_trans (segsO_cap (hs := []) (by assumption) (by decide)) (by decide) | exact Nat.le_trans (segsO_cap (hs := [_]) (by assumption) (Nat.le_refl _)) (by decide)); (case k1 => rfl); (case k2 => rfl); (case k3 => rfl); (case k4 => rfl); (case k5 => rfl); (case k6 => intro _; rfl); (case k7 => passes_own)); (case' tN => intro k9' us9' num9' segs9' t9' h9' tk9' own9' hm9' hk9' hK9' hoff9' hS9' hsz9' F9' N9'); (case' tS => intro k9' x9' us9' num9' segs9' t9' u9' h9' tk9' own9' hm9' hk9' hK9' hx9' hX9' hst9' hoff9' hS9' hsz9' F9' N9'); (case' dn => intro us9' num9' u9' h9' tk9' hS9' F9' N9')))
set_option maxRecDepth 100000 in
set_option maxHeartbeats 8000000 in
theorem con_opts (w : World) (mean : ExcName → Option Value) (mg mb : Str → Option Value) (v : List Nat) (tv : Tok) (hv : v.length ≤ 20) (D : Addr) (kvs : List (Str × Value)) (rows : List RowL) (hlo : (D == sysModules) = false) (hR : RowsAre kvs rows) (hn : rows.length ≤ 4) (hb : ∀ r ∈ rows, RowOk r) :
    Con w mean mg mb 2 (fun h => h.DictOf (PySem.strKind PG w) D kvs) 56 [.str (S v) tv, .ref D] [] (fun _ _ r => ∃ t, r = .str (S (joinL [59, 32] ([v] ++ rows.flatMap segO))) t) := by
  intro dp un gd cn cs a ccd cl outer A₀ base h₀ L m s Q E B F X T hp hk hdp hu ret
  replace hp : s.heap.DictOf (PySem.strKind PG w) D kvs := hp
  have hS : (S v).length ≤ 20 := by rw [S_len]; exact hv
  refine wpAny_call ?_
  walk_at "my enterP"
  walk_at "my steps"
  exact ret _ _ _ (stays_end (by assumption) (by assumption)) ⟨_, rfl⟩
set_option maxRecDepth 100000 in
set_option maxHeartbeats 8000000 in
theorem con_optsN (w : World) (mean : ExcName → Option Value) (mg mb : Str → Option Value) (D : Addr) (kvs : List (Str × Value)) (rows : List RowL) (hlo : (D == sysModules) = false) (hR : RowsAre kvs rows) (hn : rows.length ≤ 4) (hb : ∀ r ∈ rows, RowOk r) :
    Con w mean mg mb 2 (fun h => h.DictOf (PySem.strKind PG w) D kvs) 56 [.none, .ref D] [] (fun _ _ r => ∃ t, r = .str (S (joinL [59, 32] (([] : List (List Nat)) ++ rows.flatMap segO))) t) := by
  intro dp un gd cn cs a ccd cl outer A₀ base h₀ L m s Q E B F X T hp hk hdp hu ret
  replace hp : s.heap.DictOf (PySem.strKind PG w) D kvs := hp
  refine wpAny_call ?_
  walk_at "my enterP"
  walk_at "my steps"
  exact ret _ _ _ (stays_end (by assumption) (by assumption)) ⟨_, rfl⟩
end
end Mine
end
section
open PySem PySem.W PyProof.Rows PySem.Calls PySem.Spec
namespace Mine
/-- four names aside: what the frame says of them is u, else m₀ -/
def four (a b c d : Str) (u m₀ : Str → Option Value) : Str → Option Value := fun y => if y = a then u y else if y = b then u y else if y = c then u y else if y = d then u y else m₀ y
theorem four_eq {a b c d : Str} {u m₀ : Str → Option Value} (h : ∀ z, z ≠ a → z ≠ b → z ≠ c → z ≠ d → u z = m₀ z) : u = fun y => if y = a then u y else if y = b then u y else if y = c then u y else if y = d then u y else m₀ y := funext fun y => by
  by_cases h1 : y = a
  · rw [if_pos h1]
  · rw [if_neg h1]
    by_cases h2 : y = b
    · rw [if_pos h2]
    · rw [if_neg h2]
      by_cases h3 : y = c
      · rw [if_pos h3]
      · rw [if_neg h3]
        by_cases h4 : y = d
        · rw [if_pos h4]
        · rw [if_neg h4]; exact h y h1 h2 h3 h4
section
variable {prog : Program} {w : World} {A : Around} {E : Value → Shared → Prop} {s : Shared} {env : Env} {h₀ : Heap} {body : List Stmt} {Q : Flow → Shared → Prop} {m₀ : Str → Option Value} {x : Str}
def StFin {σ : Type} (Led : σ → List (Addr × Obj)) (P : σ → Prop) (out : Str → Prop) (h₀ : Heap) (L : Addr) (m₀ : Str → Option Value) (own : List (Addr × Obj)) (s₁ s₂ : Shared) : Prop :=
  ∃ h' tk m' news', ∃ c' : σ, s₂ = { s₁ with heap := h', toks := tk } ∧ Fr h₀ L h' m' ∧ News h₀ L h' news' ∧ (∀ p ∈ Led c', p ∈ news') ∧ (∀ p ∈ own, p ∈ news') ∧ P c' ∧ (∀ z, ¬ out z → m' z = m₀ z)
def StEnd {σ : Type} (Led : σ → List (Addr × Obj)) (P : σ → Prop) (out : Str → Prop) (h₀ : Heap) (L : Addr) (m₀ : Str → Option Value) (own : List (Addr × Obj)) (s₁ : Shared) (Q : Flow → Shared → Prop) (f : Flow) (s₂ : Shared) : Prop :=
  match f with
  | .ret v => Q (.ret v) s₂
  | .brk => Q .next s₂
  | _ => StFin Led P out h₀ L m₀ own s₁ s₂
theorem for_list {σ : Type} {l : Addr} {its : Array Value} {src : List (Addr × Obj)} {adr : List Addr} (Led : σ → List (Addr × Obj)) (P : Nat → σ → Prop) (out : Str → Prop) (c₀ : σ) {L : Addr}
    (hh : A.handled = none) (F : Fr h₀ L s.heap m₀) (N : News h₀ L s.heap (Led c₀ ++ src)) (hL : env.locals = L) (hsrc : LCg.SrcAt h₀ l its src) (hsa : ∀ p ∈ src, p.1 = l) (hadr : ∀ c, (Led c).map (·.1) = adr) (hl : l ∉ adr) (hp : P 0 c₀) (hx : out x)
    (turn : ∀ (i : Nat) (v : Value) (c : σ) (m₁ : Str → Option Value) (h : Heap) (tk : Nat) (own : List (Addr × Obj)), its[i]? = some v → P i c → (∀ z, ¬ out z → m₁ z = m₀ z) → OwnOff own adr → Fr h₀ L h (fun y => if y = x then some v else m₁ y) → News h₀ L h (Led c ++ own) →
      wpAny (model prog w) A (execs body env) (StEnd Led (P (i + 1)) out h₀ L m₀ own { s with heap := h, toks := tk } Q) E { s with heap := h, toks := tk })
    (done : ∀ (c : σ) (m₁ : Str → Option Value) (h : Heap) (tk : Nat), P its.size c → (∀ z, ¬ out z → m₁ z = m₀ z) → Fr h₀ L h m₁ → News h₀ L h (Led c ++ src) → Q .next { s with heap := h, toks := tk }) :
    wpAny (model prog w) A (pyIter (.ref l)) (fun it s₂ => LoopAtV prog w A h₀ env x body Q E it s₂) E s := by
  subst hL
  have hls : s.heap.IsList l its := LCg.SrcAt.list hsrc F.keep (fun p hp => N p (List.mem_append_right _ hp))
  obtain ⟨ol, hol, _⟩ := id hls
  have hlL : l ≠ env.locals := by
    rcases hsrc with ⟨o, ho, _⟩ | ⟨o, ho, _⟩
    · exact Nat.ne_of_lt (Nat.lt_of_lt_of_le (Heap.lt_size ho) F.above)
    · exact (N _ (List.mem_append_right _ ho)).2.1
  have hne : l ≠ s.heap.objs.size := Nat.ne_of_lt (Heap.lt_size hol)
  refine wpAny_pyIter_list hls ?_
  have W := Walks.list (prog := prog) (w := w) hh s.heap.objs.size l hne its
  have hIadr : s.heap.objs.size ∉ adr := by
    intro hm
    rw [← hadr c₀] at hm
    obtain ⟨q, hq, e⟩ := List.mem_map.mp hm
    exact absurd (Heap.lt_size (N q (List.mem_append_left _ hq)).1) (by rw [e]; exact Nat.lt_irrefl _)
  let J : Nat → (Str → Option Value) → List (Addr × Obj) → Prop := fun i m' nx => ∃ c, nx = Led c ++ src ∧ P i c ∧ ∀ z, ¬ out z → m' z = m₀ z
  refine ⟨_, _, _, its.size, _, _, m₀, Led c₀ ++ src, J, rfl, W, ?_, ?_, ?_, ⟨⟨_, Heap.get?_push_size _ rfl, rfl, rfl⟩, hls.at fun o e => Heap.get?_push_of_some _ e⟩, F.push _, (fun p hp => ⟨Heap.get?_push_of_some _ (N p hp).1, (N p hp).2⟩), ⟨c₀, rfl, hp, fun _ _ => rfl⟩, ?_, ?_⟩
  · intro hm
    rcases List.mem_cons.mp hm with e | hm
    · exact absurd F.ns.lt (e ▸ Nat.lt_irrefl _)
    · exact hlL (List.mem_singleton.mp hm).symm
  · intro b hb
    rw [List.mem_singleton.mp hb]
    exact next_is_new F
  · intro p hp hI
    exact absurd (Heap.lt_size (N p hp).1) ((List.mem_singleton.mp hI) ▸ Nat.lt_irrefl _)
  · rintro i v m₁ news₁ s₁ own ⟨hh', tk', rfl⟩ hin hP ⟨c, rfl, hpc, hm₁⟩ hoff hown hget hfp _ F₁ N₁
    have hsep : OwnOff own adr := by
      intro p hp b hb e
      have h1 := hown p hp
      simp only [List.mem_cons, List.not_mem_nil, or_false] at h1
      rcases h1 with h1 | h1
      · exact hIadr (by rw [← h1, e]; exact hb)
      · exact hl (by rw [← h1, e]; exact hb)
    have N₂ : News h₀ env.locals hh' (Led c ++ own) := fun p hp => N₁ p ((List.mem_append.mp hp).elim (fun h => List.mem_append.mpr (.inr (List.mem_append_left _ h))) fun h => List.mem_append.mpr (.inl h))
    refine wpAny_mono (turn i v c m₁ hh' tk' own hP hpc hm₁ hsep F₁ N₂) (fun f s₂ p => ?_) fun _ _ e => e
    have fin : StFin Led (P (i + 1)) out h₀ env.locals m₀ own { s with heap := hh', toks := tk' } s₂ → LoopStepU h₀ env.locals [s.heap.objs.size] own (J (i + 1)) { s with heap := hh', toks := tk' } .next s₂ := by
      rintro ⟨h', tk, m', news', c', e, F', N', h1, h2, h3, h4⟩
      refine ⟨rfl, h', tk, m', Led c' ++ src, e, F', ?_, ?_, c', rfl, h3, h4⟩
      · intro p hp
        rcases List.mem_append.mp hp with hp | hp
        · exact N' p (h2 p hp)
        · rcases List.mem_append.mp hp with hp | hp
          · exact N' p (h1 p hp)
          · have q := N₁ p (List.mem_append_right _ (List.mem_append_right _ hp))
            exact N' p (h2 p (hfp p.1 (by rw [hsa p hp]; simp) q.2.2 p.2 q.1))
      · intro p hp hI
        rw [List.mem_singleton] at hI
        rcases List.mem_append.mp hp with hp | hp
        · exact hIadr (by rw [← hI, ← hadr c']; exact List.mem_map.mpr ⟨p, hp, rfl⟩)
        · exact hne (by rw [← hI, hsa p hp])
    cases f with
    | ret v => exact .ret p
    | brk => exact .brk p
    | next => exact .next (fin p)
    | cont => exact .cont (fin p)
  · rintro h' tk m' news' F' N' hnw' ⟨c, rfl, hpc, hm'⟩
    exact done c m' h' tk hpc hm' F' N'
end
end Mine
end
section
open PySem PySem.W PyProof.Rows PySem.Calls PySem.Spec PySem.Builtin PySem.Builtin.Str
namespace Mine
/-- the part before the first c, c itself (if it stands there), the part after -/
def bef (c : Nat) (l : List Nat) : List Nat := l.takeWhile (· != c)
def sepOf (c : Nat) (l : List Nat) : List Nat := if c ∈ l then [c] else []
def aft (c : Nat) (l : List Nat) : List Nat := (l.dropWhile (· != c)).drop 1
theorem bef_len (c : Nat) (l : List Nat) : (bef c l).length ≤ l.length := (List.takeWhile_sublist _).length_le
theorem aft_len (c : Nat) (l : List Nat) : (aft c l).length ≤ l.length := Nat.le_trans (List.drop_sublist _ _).length_le (List.dropWhile_sublist _).length_le
theorem sepOf_len (c : Nat) (l : List Nat) : (sepOf c l).length ≤ 1 := by unfold sepOf; split <;> simp
theorem takeWhile_none {c : Nat} : ∀ {l : List Nat}, c ∉ l → l.takeWhile (· != c) = l
  | [], _ => rfl
  | k :: r, h => by
    have h1 : k ≠ c := fun e => h (e ▸ List.mem_cons_self ..)
    rw [List.takeWhile_cons_of_pos (by simp [h1]), takeWhile_none fun m => h (List.mem_cons_of_mem _ m)]
theorem takeWhile_at {c : Nat} : ∀ {l : List Nat} {i : Nat}, l[i]? = some c → (∀ k, k < i → l[k]? ≠ some c) → l.takeWhile (· != c) = l.take i
  | [], i, h, _ => by simp at h
  | k :: r, 0, h, _ => by
    have e : k = c := by simpa using h
    subst e
    rw [List.takeWhile_cons_of_neg (by simp)]; rfl
  | k :: r, i + 1, h, hn => by
    have h1 : k ≠ c := fun e => hn 0 (by omega) (by simp [e])
    rw [List.takeWhile_cons_of_pos (by simp [h1]), takeWhile_at (l := r) (i := i) (by simpa using h) fun j hj => by have := hn (j + 1) (by omega); simpa using this]
    rfl
theorem part_S (c : Nat) (l : List Nat) : Txt.partition (S l) ⟨#[c]⟩ = (S (bef c l), S (sepOf c l), S (aft c l)) := by
  unfold Txt.partition
  rcases StrLaws.occ_head (S l) ⟨#[c]⟩ 1 (Nat.le_refl 1) with ⟨h0, hn⟩ | ⟨i, r, h0, hi, hn⟩
  · have hfree : c ∉ l := fun hm => by
      obtain ⟨j, hj⟩ := List.getElem?_of_mem hm
      exact hn j ((StrLaws.subAt_one (S l) c j).mpr (by rw [cps_S]; exact hj))
    rw [h0]
    unfold bef sepOf aft
    rw [if_neg hfree, takeWhile_none hfree, dropWhile_none hfree]; rfl
  · rw [h0]
    have hm := (StrLaws.subAt_one (S l) c i).mp hi
    rw [cps_S] at hm
    have hno : ∀ k, k < i → l[k]? ≠ some c := fun k hk e => hn k hk ((StrLaws.subAt_one (S l) c k).mpr (by rw [cps_S]; exact e))
    unfold bef sepOf aft
    rw [if_pos (List.mem_of_getElem? hm), takeWhile_at hm hno, dropWhile_at hm hno]
    have e1 : strSub (S l) 0 i = S (l.take i) := eq_S (by rw [StrLaws.strSub_toList, cps_S]; simp)
    have e2 : strSub (S l) (i + 1) (S l).length = S (l.drop (i + 1)) := eq_S (by rw [StrLaws.strSub_toList, cps_S, S_len]; exact List.take_of_length_le (by simp))
    show (strSub (S l) 0 i, _, strSub (S l) (i + 1) (S l).length) = _
    rw [e1, e2]; rfl
theorem unsl_len : ∀ l : List Nat, (unsl l).length ≤ l.length
  | [] => by simp [unsl]
  | [c] => by simp [unsl]
  | c :: d :: r => by
    rw [unsl]
    split
    · have := unsl_len r
      simp only [List.length_cons]; omega
    · have := unsl_len (d :: r)
      simp only [List.length_cons] at this ⊢; omega
theorem unq_len (v : List Nat) : (unq v).length ≤ v.length := by
  unfold unq
  split
  · refine Nat.le_trans (unsl_len _) ?_
    simp; omega
  · exact Nat.le_refl _
theorem map_len {f : List Nat → List Nat} {ws : List (List Nat)} {n : Nat} (hf : ∀ l, (f l).length ≤ l.length) (h : ∀ wd ∈ ws, wd.length ≤ n) : ∀ wd ∈ ws.map f, wd.length ≤ n := by
  intro wd hw
  obtain ⟨y, hy, rfl⟩ := List.mem_map.mp hw
  exact Nat.le_trans (hf y) (h y hy)
theorem parseL_len {v : List Nat} (hv : v.length ≤ 500) : ∀ wd ∈ parseL v, wd.length ≤ 500 := by
  unfold parseL
  split
  · exact fun _ h => nomatch h
  · rename_i h
    refine map_len unq_len ?_
    intro wd hw
    refine map_len (n := 500) strip2_len ?_ wd (List.mem_filter.mp hw).1
    refine unS_bound (plRun_bound (xt := S v) (ws := (plRun (KStt.codes (S v))).1) (item := (plRun (KStt.codes (S v))).2.1) (esc := (plRun (KStt.codes (S v))).2.2.1) (quo := (plRun (KStt.codes (S v))).2.2.2) rfl (by rw [S_len]; exact hv))
theorem parseL_cnt {v : List Nat} (hv : v.length ≤ 500) : (parseL v).length ≤ 501 := by
  unfold parseL
  split
  · exact Nat.zero_le _
  · rw [List.length_map]
    refine Nat.le_trans (List.length_filter_le _ _) ?_
    have := (plRun_len (pre := KStt.codes (S v)) (ws := (plRun (KStt.codes (S v))).1) (item := (plRun (KStt.codes (S v))).2.1) (esc := (plRun (KStt.codes (S v))).2.2.1) (quo := (plRun (KStt.codes (S v))).2.2.2) rfl).2
    rw [KStt.codes_length, S_len] at this
    simp only [unS, List.length_map, List.length_append, List.length_singleton]
    omega
/-- a key's value put in its place, or at the end -/
def putR (rows : List RowL) (k : List Nat) (v : Option (List Nat)) : List RowL := if rows.any (fun r => r.1 == k) then rows.map (fun r => if r.1 = k then (r.1, v) else r) else rows ++ [(k, v)]
theorem putR_len (rows : List RowL) (k : List Nat) (v : Option (List Nat)) : (putR rows k v).length ≤ rows.length + 1 := by
  unfold putR; split <;> simp
def valIs (v : Value) : Option (List Nat) → Prop
  | none => v = .none
  | some x => ∃ t, v = .str (S x) t
theorem RowsAre.cons {k : List Nat} {v : Value} {o : Option (List Nat)} {kvs : List (Str × Value)} {r : List RowL} (hv : valIs v o) (h : RowsAre kvs r) : RowsAre ((S k, v) :: kvs) ((k, o) :: r) := by
  cases o with
  | none => cases hv; exact .non h
  | some x => obtain ⟨t, rfl⟩ := hv; exact .str h
theorem RowsAre.inv {kvs : List (Str × Value)} {p : Str × Value} {r : List RowL} (h : RowsAre (p :: kvs) r) : ∃ k o r', r = (k, o) :: r' ∧ p.1 = S k ∧ valIs p.2 o ∧ RowsAre kvs r' := by
  cases h with
  | non h => exact ⟨_, _, _, rfl, rfl, rfl, h⟩
  | str h => exact ⟨_, _, _, rfl, rfl, ⟨_, rfl⟩, h⟩
theorem S_eq_iff {a b : List Nat} : S a = S b ↔ a = b := ⟨S_inj, fun e => by rw [e]⟩
theorem rows_any {k : List Nat} : ∀ {kvs : List (Str × Value)} {rows : List RowL}, RowsAre kvs rows → (kvs.any fun kv => decide (kv.1 = S k)) = rows.any (fun r => r.1 == k)
  | [], _, h => by cases h; rfl
  | p :: kvs, _, h => by
    obtain ⟨k', o, r', rfl, e, _, h'⟩ := h.inv
    simp only [List.any_cons]
    rw [rows_any (k := k) h', e]
    congr 1
    rw [Bool.eq_iff_iff, decide_eq_true_eq, S_eq_iff, beq_iff_eq]
theorem rows_map {k : List Nat} {v : Value} {o : Option (List Nat)} (hv : valIs v o) : ∀ {kvs : List (Str × Value)} {rows : List RowL}, RowsAre kvs rows → RowsAre (kvs.map fun kv => if kv.1 = S k then (kv.1, v) else kv) (rows.map fun r => if r.1 = k then (r.1, o) else r)
  | [], _, h => by cases h; exact .nil
  | p :: kvs, _, h => by
    obtain ⟨k', o', r', rfl, e, hv', h'⟩ := h.inv
    have ih := rows_map (k := k) hv h'
    obtain ⟨p1, p2⟩ := p
    simp only at e hv'
    subst e
    simp only [List.map_cons]
    by_cases hk : k' = k
    · rw [if_pos (by rw [hk]), if_pos hk]; exact ih.cons hv
    · rw [if_neg (fun e => hk (S_inj e)), if_neg hk]; exact ih.cons hv'
theorem rows_app {k : List Nat} {v : Value} {o : Option (List Nat)} (hv : valIs v o) : ∀ {kvs : List (Str × Value)} {rows : List RowL}, RowsAre kvs rows → RowsAre (kvs ++ [(S k, v)]) (rows ++ [(k, o)])
  | [], _, h => by cases h; exact .cons hv .nil
  | p :: kvs, _, h => by
    obtain ⟨k', o', r', rfl, e, hv', h'⟩ := h.inv
    obtain ⟨p1, p2⟩ := p
    simp only at e hv'
    subst e
    exact .cons hv' (rows_app hv h')
theorem rows_put {k : List Nat} {v : Value} {o : Option (List Nat)} {kvs : List (Str × Value)} {rows : List RowL} (hv : valIs v o) (h : RowsAre kvs rows) : RowsAre (stored kvs (S k) v) (putR rows k o) := by
  unfold stored putR
  rw [rows_any (k := k) h]
  split
  · exact rows_map hv h
  · exact rows_app hv h
section
variable {prog : Program} {w : World} {A : Around} {E : Value → Shared → Prop} {s : Shared} {h₀ : Heap} {L D : Addr} {m : Str → Option Value} {own : List (Addr × Obj)} {Q : Unit → Shared → Prop}
theorem set_row {o : Obj} {kvs : List (Str × Value)} {rows : List RowL} {k : List Nat} {t : Tok} {v : Value} {ov : Option (List Nat)} (F : Fr h₀ L s.heap m) (N : News h₀ L s.heap ([(D, o)] ++ own)) (off : OwnOff own [D]) (hd : o.IsDictOf (PySem.strKind prog w) kvs) (hR : RowsAre kvs rows) (hn : rows.length ≤ 600) (hv : valIs v ov)
    (h : ∀ h' o' kvs' tk', Fr h₀ L h' m → News h₀ L h' ([(D, o')] ++ own) → o'.IsDictOf (PySem.strKind prog w) kvs' → RowsAre kvs' (putR rows k ov) → Q () { s with heap := h', toks := tk' }) : wpAny (model prog w) A (setItem (.ref D) (.str (S k) t) v) Q E s :=
  kda_set (g := fun o' => (D, o') :: own) F N (.head fun p hp => off p hp D (.head _)) hd (strKind_is _ _ _ _) (by rw [hR.len]; exact Nat.le_trans hn (by decide)) fun h' o' F' N' hd' => h h' o' _ _ F' N' hd' (rows_put hv hR)
end
end Mine
end
section
open PySem PySem.W PyProof.Rows PySem.Calls PySem.Spec
namespace Mine
open LCg LCt
theorem fillK7 : PySem.Challenge.rw_vm0023_01 = PySem.Challenge.rw_vm0023_01 ∧ hd.heap_39 = hd.heap_39 := by
  k_fill
  exact ⟨rfl, rfl⟩
/-- one item read into the table -/
def pdStep (rows : List RowL) (item : List Nat) : List RowL :=
  if strip2 (bef 61 item) = [] then rows else if 61 ∈ item then putR rows (strip2 (bef 61 item)) (some (unq (strip2 (aft 61 item)))) else putR rows (strip2 (bef 61 item)) none
theorem len0 {l : List Nat} (h : ((S l).length : Int) = 0) : l = [] := by
  rw [S_len] at h; cases l
  · rfl
  · simp at h; omega
theorem len1 {l : List Nat} (h : ¬ ((S l).length : Int) = 0) : l ≠ [] := by
  rintro rfl; exact h rfl
theorem pd_s1 {rows : List RowL} {item : List Nat} (h : ((S (strip2 (bef 61 item))).length : Int) = 0) : pdStep rows item = rows := by
  unfold pdStep; rw [if_pos (len0 h)]
theorem pd_s2 {rows : List RowL} {item : List Nat} (h : ¬ ((S (strip2 (bef 61 item))).length : Int) = 0) (h2 : ((S (sepOf 61 item)).length : Int) = 0) : pdStep rows item = putR rows (strip2 (bef 61 item)) none := by
  have h3 := len0 h2
  have h4 : 61 ∉ item := fun hm => by rw [sepOf, if_pos hm] at h3; cases h3
  unfold pdStep; rw [if_neg (len1 h), if_neg h4]
theorem pd_s3 {rows : List RowL} {item : List Nat} (h : ¬ ((S (strip2 (bef 61 item))).length : Int) = 0) (h2 : ¬ ((S (sepOf 61 item)).length : Int) = 0) : pdStep rows item = putR rows (strip2 (bef 61 item)) (some (unq (strip2 (aft 61 item)))) := by
  have h3 := len1 h2
  have h4 : 61 ∈ item := by
    by_cases hm : 61 ∈ item
    · exact hm
    · exact absurd (by rw [sepOf, if_neg hm]) h3
  unfold pdStep; rw [if_neg (len1 h), if_pos h4]
theorem pdStep_len (rows : List RowL) (item : List Nat) : (pdStep rows item).length ≤ rows.length + 1 := by
  unfold pdStep
  split
  · omega
  · split <;> exact putR_len _ _ _
theorem pdFold_len : ∀ (l : List (List Nat)) (rows : List RowL), (l.foldl pdStep rows).length ≤ rows.length + l.length
  | [], _ => Nat.le_refl _
  | x :: r, rows => by
    have h1 := pdFold_len r (pdStep rows x)
    have h2 := pdStep_len rows x
    simp only [List.foldl_cons, List.length_cons]; omega
structure PDσ where
  o : Obj
  kvs : List (Str × Value)
  rows : List RowL
def pdOut (z : Str) : Prop := z = Str.ofString "item" ∨ z = Str.ofString "key" ∨ z = Str.ofString "has_value" ∨ z = Str.ofString "value"
section
variable {w : World} {A : Around} {E : Value → Shared → Prop} {s : Shared} {env : Env} {h₀ : Heap} {body : List Stmt} {Q : Flow → Shared → Prop} {m₀ : Str → Option Value}
def PDFin (h₀ : Heap) (L D : Addr) (m₀ : Str → Option Value) (own : List (Addr × Obj)) (w : World) (rows' : List RowL) (s₁ s₂ : Shared) : Prop :=
  ∃ h' tk m' news' o' kvs', s₂ = { s₁ with heap := h', toks := tk } ∧ Fr h₀ L h' m' ∧ News h₀ L h' news' ∧ (D, o') ∈ news' ∧ (∀ p ∈ own, p ∈ news') ∧ o'.IsDictOf (PySem.strKind PG w) kvs' ∧ RowsAre kvs' rows' ∧
     (∀ z, z ≠ Str.ofString "item" → z ≠ Str.ofString "key" → z ≠ Str.ofString "has_value" → z ≠ Str.ofString "value" → m' z = m₀ z)
def PDEnd (h₀ : Heap) (L D : Addr) (m₀ : Str → Option Value) (own : List (Addr × Obj)) (w : World) (rows' : List RowL) (s₁ : Shared) (Q : Flow → Shared → Prop) (f : Flow) (s₂ : Shared) : Prop :=
  match f with
  | .ret v => Q (.ret v) s₂
  | .brk => Q .next s₂
  | _ => PDFin h₀ L D m₀ own w rows' s₁ s₂
theorem pd_loop {L D l : Addr} {o : Obj} {ys : List Value} {ws : List (List Nat)} (hh : A.handled = none) (F : Fr h₀ L s.heap m₀) (N : News h₀ L s.heap [(l, lst ys), (D, o)]) (hL : env.locals = L) (hne : ∀ p ∈ [(D, o)], @Ne Nat l p.1) (hd : o.IsDictOf (PySem.strKind PG w) []) (hS : StrsAre ys (ws.map S)) (hb : ∀ wd ∈ ws, wd.length ≤ 500) (hn : ws.length ≤ 501)
    (turn : ∀ (item : List Nat) t (o : Obj) (kvs : List (Str × Value)) (rows : List RowL) (u : Str → Option Value) h tk own, item.length ≤ 500 → (S item).length ≤ 500 → OwnOff own [D] → o.IsDictOf (PySem.strKind PG w) kvs → RowsAre kvs rows → rows.length ≤ 600 →
      Fr h₀ L h (fun y => if y = Str.ofString "item" then some (.str (S item) t) else if y = Str.ofString "key" then u y else if y = Str.ofString "has_value" then u y else if y = Str.ofString "value" then u y else m₀ y) →
      News h₀ L h ([(D, o)] ++ own) →
      wpAny (model PG w) A (execs body env) (PDEnd h₀ L D m₀ own w (pdStep rows item) { s with heap := h, toks := tk } Q) E { s with heap := h, toks := tk })
    (done : ∀ (o : Obj) (kvs : List (Str × Value)) (u : Str → Option Value) h tk, o.IsDictOf (PySem.strKind PG w) kvs → RowsAre kvs (ws.foldl pdStep []) →
      Fr h₀ L h (fun y => if y = Str.ofString "item" then u y else if y = Str.ofString "key" then u y else if y = Str.ofString "has_value" then u y else if y = Str.ofString "value" then u y else m₀ y) →
      News h₀ L h [(D, o), (l, lst ys)] → Q .next { s with heap := h, toks := tk }) :
    wpAny (model PG w) A (pyIter (.ref l)) (fun it s₂ => LoopAtV PG w A h₀ env (Str.ofString "item") body Q E it s₂) E s := by
  have hlen : ys.toArray.size = ws.length := by
    have := StrsAre.len_eq hS
    rw [List.length_map] at this; simpa using this
  refine for_list (σ := PDσ) (src := [(l, lst ys)]) (adr := [D]) (its := ys.toArray) (fun c => [(D, c.o)]) (fun i c => c.o.IsDictOf (PySem.strKind PG w) c.kvs ∧ RowsAre c.kvs c.rows ∧ c.rows = (ws.take i).foldl pdStep []) pdOut ⟨o, [], []⟩ hh F (fun p hp => N p ?_) hL (.inr ⟨_, .head _, rfl, _, rfl⟩) (fun p hp => by rw [List.mem_singleton.mp hp]) (fun _ => rfl) (fun h => hne _ (.head _) (List.mem_singleton.mp h)) ⟨hd, .nil, rfl⟩ (.inl rfl) ?_ ?_
  · simp only [List.cons_append, List.nil_append, List.mem_cons, List.not_mem_nil, or_false] at hp ⊢
    exact hp.symm
  · rintro i v ⟨o₁, kvs, rows⟩ m₁ h tk own hv ⟨h1, h2, h3⟩ hm hoff F₁ N₁
    obtain ⟨wd, t, hw, rfl⟩ := strs_getS (its := ys.toArray) (by simpa using hS) hv
    have hwm := List.mem_of_getElem? hw
    have hr : rows.length ≤ 600 := by
      have := pdFold_len (ws.take i) []
      simp only at h3
      rw [h3]
      simp only [List.length_take, List.length_nil] at this ⊢
      omega
    have hf : (fun y => if y = Str.ofString "item" then some (Value.str (S wd) t) else m₁ y) = fun y => if y = Str.ofString "item" then some (.str (S wd) t) else if y = Str.ofString "key" then m₁ y else if y = Str.ofString "has_value" then m₁ y else if y = Str.ofString "value" then m₁ y else m₀ y := funext fun y => by
      by_cases e1 : y = Str.ofString "item"
      · rw [if_pos e1, if_pos e1]
      · rw [if_neg e1, if_neg e1]
        by_cases e2 : y = Str.ofString "key"
        · rw [if_pos e2]
        · rw [if_neg e2]
          by_cases e3 : y = Str.ofString "has_value"
          · rw [if_pos e3]
          · rw [if_neg e3]
            by_cases e4 : y = Str.ofString "value"
            · rw [if_pos e4]
            · rw [if_neg e4]
              exact hm y (by rintro (e | e | e | e) <;> contradiction)
    rw [hf] at F₁
    refine wpAny_mono (turn wd t o₁ kvs rows m₁ h tk own (hb wd hwm) (by rw [S_len]; exact hb wd hwm) hoff h1 h2 hr F₁ N₁) (fun f s₂ hq => ?_) fun _ _ e => e
    have fin : PDFin h₀ L D m₀ own w (pdStep rows wd) { s with heap := h, toks := tk } s₂ → StFin (σ := PDσ) (fun c => [(D, c.o)]) (fun c => c.o.IsDictOf (PySem.strKind PG w) c.kvs ∧ RowsAre c.kvs c.rows ∧ c.rows = (ws.take (i + 1)).foldl pdStep []) pdOut h₀ L m₀ own { s with heap := h, toks := tk } s₂ := by
      rintro ⟨h', tk', m', news', o', kvs', e, F', N', g1, g2, g3, g4, g5⟩
      refine ⟨h', tk', m', news', ⟨o', kvs', _⟩, e, F', N', fun p hp => by rw [List.mem_singleton.mp hp]; exact g1, g2, ⟨g3, g4, ?_⟩, fun z hz => g5 z (fun e => hz (.inl e)) (fun e => hz (.inr (.inl e))) (fun e => hz (.inr (.inr (.inl e)))) (fun e => hz (.inr (.inr (.inr e))))⟩
      simp only at h3
      rw [h3, List.take_add_one, hw, List.foldl_append]; rfl
    cases f with
    | ret v => exact hq
    | brk => exact hq
    | next => exact fin hq
    | cont => exact fin hq
  · rintro ⟨o₁, kvs, rows⟩ m₁ h tk ⟨h1, h2, h3⟩ hm F₁ N₁
    rw [hlen, List.take_length] at h3
    have hf : m₁ = fun y => if y = Str.ofString "item" then m₁ y else if y = Str.ofString "key" then m₁ y else if y = Str.ofString "has_value" then m₁ y else if y = Str.ofString "value" then m₁ y else m₀ y :=
      four_eq fun z a b c d => hm z (by rintro (e | e | e | e) <;> contradiction)
    simp only at h3
    subst h3
    exact done o₁ kvs m₁ h tk h1 h2 (by rw [hf] at F₁; exact F₁) N₁
end
end Mine
end
section
local macro_rules | `(tactic| walk_at "idle 0") => `(tactic| skip)
local macro_rules | `(tactic| walk_at "idle 1") => `(tactic| skip)
local macro_rules | `(tactic| walk_at "idle 2") => `(tactic| skip)
open PySem PySem.W PyProof.Rows PySem.Calls PySem.Spec
namespace Mine
open LCg LCt
section
local macro_rules | `(tactic| walk_at "my enterP") => `(tactic| k_dflt (refine' enter_plain ?k1 ?k2 ?k3 ?k5 ?kA ?kF ?kK ?k6 ?k7 ?k8 ?k9 ?kB ?kL ?_ ?c2 ?c3 ?c4 ?c5; (case kA => exact rfl); (case kF => exact rfl); (case kK => assumption); (case k1 => k_asm); (case k2 => k_asm); (case k3 => k_asm); (case k5 => k_asm); (case k6 => k_is); (case k7 => k_is); (case k8 => ktr_room); (case k9 => exact BindsTo.of_eq rfl); (case c5 => decide); (case kB => exact locs rfl); (case kL => exact ⟨_, _, rfl⟩); (case c2 => exact rfl); (case c3 => exact rfl); (case c4 => exact rfl); k_whole; intro g' L' h' tk' htk' hst' FG' F' N' B' X' T'; (try dsimp only); (try k_lift B'); (try k_fold)))
local macro_rules | `(tactic| walk_at "execs cons") => `(tactic| (k_here; (with_reducible refine execs_cons_tk (by first | assumption | (dsimp only; omega)) ?_); try dsimp only))
local macro_rules | `(tactic| walk_at "execs nil") => `(tactic| (k_here; (with_reducible refine wpAny_execs_nil ?_); try dsimp only))
local macro_rules | `(tactic| walk_at "my steps") => `(tactic| repeat' (first | (k_unfold; (try dsimp only)) | walk1 | (dsimp only; walk1) | (leave1; (try dsimp only)) | fail "no step"))
local macro_rules | `(tactic| walk_at "LeaveK") => `(tactic| (k_here; k_dflt (refine' leaveK_ ?k1 ?k2 ?_; (case k1 => k_asm); (case k2 => k_asm)); intro kF kN; (try dsimp only)))

theorem fillK8 : PySem.Challenge.rw_vm0023_01 = PySem.Challenge.rw_vm0023_01 ∧ hd.heap_39 = hd.heap_39 := by
  k_fill
  exact ⟨rfl, rfl⟩
theorem call_plist {w : World} {mean : ExcName → Option Value} {mg mb : Str → Option Value} {A : Around} {dp un : Nat} {gd : Option (List Code)} {cn : Str} {cs : Scope} {a : Addr} {ccd : Value} {cl : List (Str × Addr)} {outer : List Env} {A₀ : Around} {base h₀ : Heap} {L : Addr} {m : Str → Option Value} {s : Shared} {Q E : Value → Shared → Prop} {news : List (Addr × Obj)} {v : List Nat} {tv : Tok}
    (hA : A = ktrTop dp un gd cn cs L a ccd cl outer) (F : Fr h₀ L s.heap m) (B : Below A₀ base outer h₀) (X : (hd.heap_39 w.params).In h₀) (T : Top topProg LO mean mg mb h₀) (N : News h₀ L s.heap news) (hp : TabFull h₀) (hk : cs.kind = .function) (hd : dp + 3 < recursionLimit) (hu : un + 24 < cLine) (hv : v.length ≤ 500)
    (ret : ∀ l ys h' tk', Fr h₀ L h' m → News h₀ L h' ((l, lst ys) :: news) → (∀ p ∈ news, @Ne Nat l p.1) → StrsAre ys ((parseL v).map S) → Q (.ref l) { s with heap := h', toks := tk' }) :
    wpAny (model PG w) A (call (.ref 66) [.str (S v) tv]) Q E s := by
  subst hA
  refine con_val (con_plist w mean mg mb v tv hv) B F X T N (hp.keeps F.keep) hk hd (by omega) fun v' h' tk' F' N' ⟨l, ys, e, h1, h2, h3⟩ => ?_
  subst e
  refine ret l ys h' tk' F' (fun p hp => ?_) (fun p hp e => ?_) h3
  · rcases List.mem_cons.mp hp with e | hp
    · rw [e]
      refine ⟨h1, ?_, ?_⟩
      · rintro rfl
        obtain ⟨o, _, _, ho, _⟩ := F.ns
        rw [h2] at ho; cases ho
      · cases e : h₀.get? l with
        | none => rfl
        | some o => have := F.keep _ _ e; rw [h2] at this; cases this
    · exact N' p hp
  · have e2 : l = p.1 := e
    have := (N p hp).1
    rw [← e2, h2] at this; cases this
local macro_rules | `(tactic| walk_at "call ref") => `(tactic| (k_here; (try dsimp only [List.cons_append, List.nil_append]); first
  | (k_dflt (refine' call_unq ?kA ?kF ?kB ?kX ?kT ?kN ?kp ?kk ?kd ?ku ?kv ?_; (case kA => rfl); (case kF => k_asm); (case kB => k_asm); (case kX => k_asm); (case kT => k_asm); (case kN => k_asm); (case kp => exact TabFull.keeps (by assumption) (by assumption)); (case kk => rfl); (case kd => ktr_room); (case ku => dsimp only [Around.deeper, ktrTop]; omega); (case kv => assumption)); intro t7' h7' k7' F7' N7')
  | (k_dflt (refine' call_plist ?kA ?kF ?kB ?kX ?kT ?kN ?kp ?kk ?kd ?ku ?kv ?_; (case kA => rfl); (case kF => k_asm); (case kB => k_asm); (case kX => k_asm); (case kT => k_asm); (case kN => k_asm); (case kp => exact TabFull.keeps (by assumption) (by assumption)); (case kk => rfl); (case kd => ktr_room); (case ku => dsimp only [Around.deeper, ktrTop]; omega); (case kv => assumption)); intro l7' ys7' h7' k7' F7' N7' hne7' hS7')))
theorem eq_c : Str.ofString "=" = ⟨#[61]⟩ := by decide +kernel
theorem part_call {prog : Program} {w : World} {A : Around} {E : Value → Shared → Prop} {s : Shared} {h₀ : Heap} {L D : Addr} {o : Obj} {own : List (Addr × Obj)} {m : Str → Option Value} {Q : Value → Shared → Prop} {l : List Nat} {y : Str} {c : Nat} {t u : Tok} (hy : y = ⟨#[c]⟩) (F : Fr h₀ L s.heap m) (N : News h₀ L s.heap ([(D, o)] ++ own)) (hl : l.length ≤ 500)
    (h : ∀ T ta tb tc h' k, Fr h₀ L h' m → News h₀ L h' ((T, { cls := .type "tuple", data := .seq [.str (S (bef c l)) ta, .str (S (sepOf c l)) tb, .str (S (aft c l)) tc].toArray }) :: ([(D, o)] ++ own)) → (bef c l).length ≤ 500 → (S (bef c l)).length ≤ 500 → (aft c l).length ≤ 500 → (S (aft c l)).length ≤ 500 → (S (sepOf c l)).length ≤ 1 → Q (.ref T) { s with heap := h', toks := k }) :
    wpAny (model prog w) A (call (.builtin "str.partition") [.str (S l) t, .str y u]) Q E s := by
  subst hy
  have e := part_S c l
  have h1 := Nat.le_trans (bef_len c l) hl
  have h2 := Nat.le_trans (aft_len c l) hl
  refine KXpa.partition F N rfl (by rw [e]) (by rw [e]) (by rw [e]) (by rw [S_len]; exact Nat.le_trans hl (by decide)) fun T ta tb tc h' k F' N' _ => h T ta tb tc h' k F' N' h1 (by rw [S_len]; exact h1) h2 (by rw [S_len]; exact h2) (by rw [S_len]; exact sepOf_len c l)
local macro_rules | `(tactic| walk_at "call builtin:str.partition") => `(tactic| (k_here; (try dsimp only [List.cons_append, List.nil_append]); (refine part_call eq_c (by assumption) (by assumption) (by assumption) ?_); intro T6' ta6' tb6' tc6' h6' k6' F6' N6' hb6' hB6' ha6' hA6' hs6'))
theorem strip_callB {prog : Program} {w : World} {A : Around} {E : Value → Shared → Prop} {s : Shared} {l : List Nat} {t u : Tok} {Q : Value → Shared → Prop} (hl : l.length ≤ 500) (h : ∀ t' k, (strip2 l).length ≤ 500 → (S (strip2 l)).length ≤ 500 → Q (.str (S (strip2 l)) t') { s with toks := k }) :
    wpAny (model prog w) A (call (.builtin "str.strip") [.str (S l) t, .str (Str.ofString " \t") u]) Q E s :=
  strip_call hl fun t' k => h t' k (Nat.le_trans (strip2_len l) hl) (by rw [S_len]; exact Nat.le_trans (strip2_len l) hl)
local macro_rules | `(tactic| walk_at "call builtin:str.strip") => `(tactic| (k_here; (try dsimp only [List.cons_append, List.nil_append]); refine strip_callB (by assumption) ?_; intro t9' k9' hl9' hL9'))
local macro_rules | `(tactic| walk_at "pyIter ref") => `(tactic| (k_here; k_dflt (refine' pd_loop ?hh ?F ?N ?hL ?hne ?hd ?hS ?hb ?hn ?tn ?dn; (case hh => rfl); (case F => assumption); (case N => assumption); (case hL => rfl); (case hne => assumption); (case hd => assumption); (case hS => assumption); (case hb => exact parseL_len (by assumption)); (case hn => exact parseL_cnt (by assumption))); (case' tn => intro item9' t9' o9' kvs9' rows9' u9' h9' tk9' own9' hi9' hI9' hoff9' hd9' hR9' hn9' F9' N9'); (case' dn => intro o9' kvs9' u9' h9' tk9' hd9' hR9' F9' N9')))
theorem set_rowT {prog : Program} {w : World} {A : Around} {E : Value → Shared → Prop} {s : Shared} {h₀ : Heap} {L D : Addr} {m : Str → Option Value} {own : List (Addr × Obj)} {Q : Unit → Shared → Prop} {q : Addr × Obj} {o : Obj} {kvs : List (Str × Value)} {rows : List RowL} {k : List Nat} {t : Tok} {v : Value} {ov : Option (List Nat)} (F : Fr h₀ L s.heap m) (N : News h₀ L s.heap (q :: ([(D, o)] ++ own))) (off : OwnOff own [D]) (hd : o.IsDictOf (PySem.strKind prog w) kvs) (hR : RowsAre kvs rows) (hn : rows.length ≤ 600) (hv : valIs v ov)
    (h : ∀ h' o' kvs' tk', Fr h₀ L h' m → News h₀ L h' ([(D, o')] ++ own) → o'.IsDictOf (PySem.strKind prog w) kvs' → RowsAre kvs' (putR rows k ov) → Q () { s with heap := h', toks := tk' }) : wpAny (model prog w) A (setItem (.ref D) (.str (S k) t) v) Q E s :=
  set_row F (fun p hp => N p (List.mem_cons_of_mem _ hp)) off hd hR hn hv h
theorem val_none : valIs .none none := rfl
theorem val_some {x : List Nat} {t : Tok} : valIs (.str (S x) t) (some x) := ⟨t, rfl⟩
local macro_rules | `(tactic| walk_at "setItem ref str") => `(tactic| (k_here; (try dsimp only [List.cons_append, List.nil_append]); first
  | (k_dflt (refine' set_row (by assumption) (by assumption) (by assumption) (by assumption) (by assumption) (by assumption) (by first | exact val_some | exact val_none) ?_); intro h5' o5' kvs5' tk5' F5' N5' hd5' hR5')
  | (k_dflt (refine' set_rowT (by assumption) (by assumption) (by assumption) (by assumption) (by assumption) (by assumption) (by first | exact val_some | exact val_none) ?_); intro h5' o5' kvs5' tk5' F5' N5' hd5' hR5')))
theorem memh {p : Addr × Obj} {own : List (Addr × Obj)} : p ∈ [p] ++ own := List.mem_append_left _ (List.mem_singleton.mpr rfl)
theorem memt {p q : Addr × Obj} {own : List (Addr × Obj)} : p ∈ q :: ([p] ++ own) := List.mem_cons_of_mem _ memh
theorem suph {q : Addr × Obj} {own : List (Addr × Obj)} : ∀ p ∈ own, p ∈ [q] ++ own := fun p hp => List.mem_append_right _ hp
theorem supt {q r : Addr × Obj} {own : List (Addr × Obj)} : ∀ p ∈ own, p ∈ r :: ([q] ++ own) := fun p hp => List.mem_cons_of_mem _ (suph p hp)
theorem rows_as {kvs : List (Str × Value)} {a b : List RowL} (h : RowsAre kvs a) (e : b = a) : RowsAre kvs b := e ▸ h
local macro_rules | `(tactic| walk_at "PDEnd") => `(tactic| (k_here; show PDFin _ _ _ _ _ _ _ _ _; k_dflt (refine' ⟨_, _, _, _, _, _, rfl, by assumption, by assumption, ?m, ?o, ?hd, ?hR, ?e4⟩; (case e4 => (intro z h1 h2 h3 h4; simp only [h1, h2, h3, h4, if_false])); (case m => first | exact memh | exact memt); (case o => first | exact suph | exact supt); (case hd => assumption); (case hR => first | exact rows_as (by assumption) (pd_s3 (by assumption) (by assumption)) | exact rows_as (by assumption) (pd_s2 (by assumption) (by assumption)) | exact rows_as (by assumption) (pd_s1 (by assumption))))))
/-- r is a new dict of these rows -/
def DictRes (rows : List RowL) (w : World) (h h' : Heap) (r : Value) : Prop := ∃ D kvs o, r = .ref D ∧ h'.get? D = some o ∧ o.IsDictOf (PySem.strKind PG w) kvs ∧ RowsAre kvs rows ∧ h.get? D = none ∧ (D == sysModules) = false
theorem dictRes_of {rows : List RowL} {w : World} {h g h' : Heap} {L' D : Addr} {o : Obj} {kvs : List (Str × Value)} {r : List (Addr × Obj)} (hst : h.StaysIn g) (N : News g L' h' ((D, o) :: r)) (hd : o.IsDictOf (PySem.strKind PG w) kvs) (hR : RowsAre kvs rows) (hlo : (D == sysModules) = false) : DictRes rows w h h' (.ref D) := by
  refine ⟨D, kvs, o, rfl, (N _ (.head _)).1, hd, hR, ?_, hlo⟩
  cases e : h.get? D with
  | none => rfl
  | some o => have := (N _ (.head _)).2.2; rw [hst _ _ e] at this; cases this
/-- what parse_dict_header gives -/
def parseD (v : List Nat) : List RowL := (parseL v).foldl pdStep []
theorem pd_ret {Q : Value → Shared → Prop} {w : World} {v : List Nat} {s : Shared} {g h' : Heap} {L' D : Addr} {m' : Str → Option Value} {o : Obj} {kvs : List (Str × Value)} {r : List (Addr × Obj)} {tk : Nat} (ret : ∀ (r : Value) (h' : Heap) (tk' : Nat), s.heap.StaysIn h' → DictRes (parseD v) w s.heap h' r → Q r { s with heap := h', toks := tk' })
    (hst : s.heap.StaysIn g) (F : Fr g L' h' m') (N : News g L' h' ((D, o) :: r)) (hd : o.IsDictOf (PySem.strKind PG w) kvs) (hR : RowsAre kvs ((parseL v).foldl pdStep [])) (hlo : (D == sysModules) = false) : Q (.ref D) { s with heap := h', toks := tk } :=
  ret _ _ _ (stays_end hst F) (dictRes_of hst N hd hR hlo)
set_option maxRecDepth 100000 in
set_option maxHeartbeats 8000000 in
theorem con_pdict (w : World) (mean : ExcName → Option Value) (mg mb : Str → Option Value) (v : List Nat) (tv : Tok) (hv : v.length ≤ 500) :
    Con w mean mg mb 4 TabFull 73 [.str (S v) tv] [] (DictRes (parseD v) w) := by
  intro dp un gd cn cs a ccd cl outer A₀ base h₀ L m s Q E B F X T hp hk hdp hu ret
  have hS : (S v).length ≤ 500 := by rw [S_len]; exact hv
  refine wpAny_call ?_
  walk_at "my enterP"
  walk_at "my steps"
  exact pd_ret ret (by assumption) (by assumption) (by assumption) (by assumption) (by assumption) (by assumption)
end
end Mine
end
section
open PySem PySem.W PyProof.Rows PySem.Calls PySem.Spec PySem.Builtin PySem.Builtin.Str
namespace Mine
open RE
section
variable {prog : Program} {w : World} {A : Around} {E : Value → Shared → Prop} {s : Shared}
theorem noBool_match : typeLookup (.type "re.Match") "__bool__" = pure none := by rw [typeLookup_type, builtinLookup_eq_fast]; kernel_rfl
theorem noLen_match : typeLookup (.type "re.Match") "__len__" = pure none := by rw [typeLookup_type, builtinLookup_eq_fast]; kernel_rfl
theorem truthy_match {D : Addr} {Q : Bool → Shared → Prop} (hT : s.TypeIs (.ref D) "re.Match") (h : Q true s) : wpAny (model prog w) A (truthy (.ref D)) Q E s := by
  unfold truthy
  refine wpAny_bind (wpAny_callSpecial?_none (name := Str.ofString "__bool__") hT noBool_match ?_)
  refine wpAny_bind (wpAny_specialOf (name := Str.ofString "__len__") hT noLen_match ?_)
  exact wpAny_pure h
/-- a text stands at a place -/
def stAt (x p : Str) (i : Nat) : Bool := i + p.length ≤ x.length && subAt x p i
theorem starts_tup {x p q : Str} {T : Addr} {t tp tq v : Tok} {i : Nat} {Q : Value → Shared → Prop} (hT : s.heap.IsTuple T #[.str p tp, .str q tq]) (h : Q (.bool (stAt x p i || stAt x q i)) s) :
    wpAny (model prog w) A (call (.builtin "str.startswith") [.str x t, .ref T, .int (i : Int) v]) Q E s := by
  obtain ⟨o, ho, hc, n, hd⟩ := hT
  refine wpAny_call_entry F.slot_str_startswith (typeIs_str _ _ _) F.entry_str_startswith ?_ (F.args_str_startswith_3 _ _ _)
  unfold Builtin.«str.startswith» affixEntry
  refine wpAny_bind (m := strSomeArgs _ _ _ _) (wpAny_pure ?_)
  refine wpAny_bind (m := searchRange _ _) (wpAny_pure ?_)
  refine wpAny_bind (m := asStr? _) (KPt.asStr_ref ho hd ?_)
  refine wpAny_bind (m := isInstance _ _) (wpAny_isInstance (T := "tuple") (b := true) ⟨o, ho, hc⟩ F.sub_tuple_tuple ?_)
  refine wpAny_bind (wpAny_rule ?_)
  refine wpAny_bind (m := seqItems? _) (wpAny_seqItems ho hd ?_)
  dsimp only
  have e1 : (Max.max 0 (if (i : Int) < 0 then (i : Int) + (x.length : Int) else (i : Int))).toNat = i := by
    rw [if_neg (by omega)]; omega
  have e2 : Min.min ((x.length : Int)).toNat x.length = x.length := by rw [Int.toNat_natCast, Nat.min_self]
  simp only [e1, e2, ← Array.forIn_toList, List.forIn_cons, List.forIn_nil]
  have f : ∀ y : Str, (decide (i + y.length ≤ x.length) && subAt x y i) = stAt x y i := fun _ => rfl
  simp only [f]
  refine wpAny_bind ?_
  refine wpAny_bind (wpAny_bind (m := asStr? _) (wpAny_pure ?_))
  dsimp only
  by_cases h1 : stAt x p i = true
  · rw [h1, Bool.true_or] at h
    rw [if_pos h1]
    refine wpAny_bind (m := ret (.bool true)) (wpAny_pure (wpAny_pure (wpAny_pure (wpAny_pure ⟨_, rfl, h⟩))))
  · rw [Bool.eq_false_iff.mpr h1, Bool.false_or] at h
    rw [if_neg h1]
    refine wpAny_pure ?_
    dsimp only
    refine wpAny_bind (wpAny_bind (m := asStr? _) (wpAny_pure ?_))
    dsimp only
    by_cases h2 : stAt x q i = true
    · rw [h2] at h
      rw [if_pos h2]
      refine wpAny_bind (m := ret (.bool true)) (wpAny_pure (wpAny_pure (wpAny_pure (wpAny_pure ⟨_, rfl, h⟩))))
    · rw [Bool.eq_false_iff.mpr h2] at h
      rw [if_neg h2]
      exact wpAny_pure (wpAny_pure (wpAny_pure ⟨_, rfl, h⟩))
theorem While_else {h₀ : Heap} {L : Addr} {env : Env} {Q : Flow → Shared → Prop} {test : Expr} {body orelse : List Stmt} {pos : Pos} {m : Str → Option Value} {news : List (Addr × Obj)} (J : Nat → (Str → Option Value) → List (Addr × Obj) → Prop) {n₀ : Nat}
    (F : Fr h₀ L s.heap m) (N : News h₀ L s.heap news) (hJ : J n₀ m news)
    (turn : ∀ n m₁ news₁ h₁ tk₁, Fr h₀ L h₁ m₁ → News h₀ L h₁ news₁ → J n m₁ news₁ →
      wpAny (model prog w) A (isTrue test env (eval test env)) (fun b s₂ =>
        if b = true then wpAny (model prog w) A (execs body env) (WhileStep2 h₀ L s J Q n) E s₂ else wpAny (model prog w) A (execs orelse env) Q E s₂) E { s with heap := h₁, toks := tk₁ })
    (hE : PassesOwn (model prog w) A env E := by passes_own) :
    wpAny (model prog w) A (exec (.While test body orelse pos) env) Q E s := by
  refine wpAny_While (codeAny_whileLoop (fun n s' => ∃ h₁ tk₁ m₁ news₁, s' = { s with heap := h₁, toks := tk₁ } ∧ Fr h₀ L h₁ m₁ ∧ News h₀ L h₁ news₁ ∧ J n m₁ news₁) ?_ n₀ ⟨s.heap, s.toks, m, news, rfl, F, N, hJ⟩)
  rintro n s' ⟨h₁, tk₁, m₁, news₁, rfl, F₁, N₁, J₁⟩
  refine wpAny_mono (turn n m₁ news₁ h₁ tk₁ F₁ N₁ J₁) (fun b s₂ h₂ => ?_) hE
  cases b with
  | false =>
    simp only [Bool.false_eq_true, if_false] at h₂ ⊢
    exact wpAny_mono h₂ (fun f s₃ h₃ => h₃) hE
  | true =>
    simp only [if_true] at h₂ ⊢
    refine wpAny_mono h₂ (fun f s₃ h₃ => ?_) hE
    cases f with
    | next =>
      obtain ⟨h', tk, m₂, news₂, n', rfl, F₂, N₂, hn, J₂⟩ := h₃
      exact ⟨n', hn, h', tk, m₂, news₂, rfl, F₂, N₂, J₂⟩
    | cont =>
      obtain ⟨h', tk, m₂, news₂, n', rfl, F₂, N₂, hn, J₂⟩ := h₃
      exact ⟨n', hn, h', tk, m₂, news₂, rfl, F₂, N₂, J₂⟩
    | brk => exact h₃
    | ret v => exact h₃
end
/-- the length of what stands up to the closing quote, that quote too -/
def qs : List Nat → Option Nat
  | [] => none
  | [c] => if c = 34 then some 1 else none
  | c :: d :: r => if c = 92 ∧ (d = 92 ∨ d = 34) then (qs r).map (· + 2) else if c = 34 then some 1 else (qs (d :: r)).map (· + 1)
theorem qs_len : ∀ {l : List Nat} {k : Nat}, qs l = some k → k ≤ l.length ∧ 1 ≤ k
  | [], k, h => by cases h
  | [c], k, h => by
    simp only [qs] at h
    split at h
    · cases h; simp
    · cases h
  | c :: d :: r, k, h => by
    simp only [qs] at h
    split at h
    · cases e : qs r with
      | none => rw [e] at h; cases h
      | some j =>
        rw [e] at h; cases h
        have := qs_len e
        simp only [List.length_cons]; omega
    · split at h
      · cases h; simp
      · cases e : qs (d :: r) with
        | none => rw [e] at h; cases h
        | some j =>
          rw [e] at h; cases h
          have := qs_len e
          simp only [List.length_cons] at this ⊢; omega
/-- the head of one turn: what is read at p, and where the next delimiter is sought -/
def poHead (l : List Nat) (p : Nat) : Option (List (List Nat × List Nat) × Nat) :=
  let n := runN tokC l p
  if 1 ≤ n ∧ l[p + n]? = some 61 then
    let k := (Txt.lower (S (cut l p (p + n)))).cps.toList
    let q := p + n + 1
    let n2 := runN tokC l q
    if 1 ≤ n2 then some ([(k, cut l q (q + n2))], q)
    else if l[q]? = some 34 then
      match qs (l.drop (q + 1)) with
      | none => none
      | some j => some ([(k, cut l q (q + 1 + j))], q + 1 + j)
    else some ([], q)
  else some ([], p)
/-- the pairs that the loop reads from p on -/
def poRun : Nat → List Nat → Nat → List (List Nat × List Nat)
  | 0, _, _ => []
  | n + 1, l, p => if l.length ≤ p then [] else match poHead l p with
    | none => []
    | some (ps, q) => match searchD (l.drop q) with
      | none => ps
      | some o => ps ++ poRun n l (q + o + 1 + runN blankC l (q + o + 1))
end Mine
end
section
open PySem PySem.W PyProof.Rows PySem.Calls PySem.Spec PySem.Builtin PySem.Builtin.Str
namespace Mine
open RE
theorem runN_le (f : Nat → Bool) (l : List Nat) (p : Nat) : p ≤ l.length → p + runN f l p ≤ l.length := by
  intro h
  have := (List.takeWhile_sublist f (l := l.drop p)).length_le
  unfold RE.runN
  rw [List.length_drop] at this
  omega
theorem searchD_lt : ∀ {l : List Nat} {o : Nat}, searchD l = some o → o < l.length
  | [], o, h => by cases h
  | c :: r, o, h => by
    simp only [searchD] at h
    split at h
    · cases h; simp
    · cases e : searchD r with
      | none => rw [e] at h; cases h
      | some k =>
        rw [e] at h; cases h
        have := searchD_lt e
        simp only [List.length_cons]; omega
def lowL (g : List Nat) : List Nat := (Txt.lower (S g)).cps.toList
theorem S_lowL (g : List Nat) : S (lowL g) = Txt.lower (S g) := S_cps _
section
variable {prog : Program} {w : World} {A : Around} {E : Value → Shared → Prop} {s : Shared} {h₀ : Heap} {L D : Addr} {m : Str → Option Value} {o : Obj} {own : List (Addr × Obj)} {l : List Nat} {t u : Tok} {Q : Value → Shared → Prop} {P : Addr}
theorem off_cons {own : List (Addr × Obj)} {a : Addr × Obj} (h : a.1 ≠ D) (off : OwnOff own [D]) : OwnOff (a :: own) [D] := by
  intro p hp b hb e
  rcases List.mem_cons.mp hp with rfl | hp
  · rw [List.mem_singleton.mp hb] at e; exact h e
  · exact off p hp b hb e
/-- two new objects laid behind the one that changes -/
theorem two_new {o1 o2 : Obj} {h : Heap} (F : Fr h₀ L h m) (N : News h₀ L h ([(D, o)] ++ own)) (off : OwnOff own [D]) (f1 : o1.isFreed = false) (f2 : o2.isFreed = false) :
    Fr h₀ L ((h.push o1).push o2) m ∧ News h₀ L ((h.push o1).push o2) ([(D, o)] ++ ((h.objs.size + 1, o2) :: (h.objs.size, o1) :: own)) ∧ OwnOff ((h.objs.size + 1, o2) :: (h.objs.size, o1) :: own) [D] := by
  have N1 := News.push F N o1 f1
  have F1 := F.push o1
  have N2 := News.push F1 N1 o2 f2
  rw [Heap.size_push] at N2
  have hD : D < h.objs.size := Heap.lt_size (N (D, o) (List.mem_append_left _ (.head _))).1
  refine ⟨F1.push o2, fun p hp => N2 p ?_, off_cons (Nat.ne_of_gt (Nat.lt_succ_of_lt hD)) (off_cons (Nat.ne_of_gt hD) off)⟩
  simp only [List.cons_append, List.nil_append, List.mem_cons] at hp ⊢
  rcases hp with h | h | h | h
  · exact .inr (.inr (.inl h))
  · exact .inl h
  · exact .inr (.inl h)
  · exact .inr (.inr (.inr h))
theorem key_W {p : Nat} (H : PatAt h₀ P cK 1) (F : Fr h₀ L s.heap m) (N : News h₀ L s.heap ([(D, o)] ++ own)) (off : OwnOff own [D]) (hl : l.length ≤ 500) (hp : p ≤ l.length)
    (yes : ∀ M T h', 1 ≤ runN tokC l p ∧ l[p + runN tokC l p]? = some 61 → p + runN tokC l p + 1 ≤ l.length → (cut l p (p + runN tokC l p)).length ≤ 500 → (S (cut l p (p + runN tokC l p))).length ≤ 500 → Fr h₀ L h' m →
      News h₀ L h' ([(D, o)] ++ ((M, matchObj (S l) t P p l.length 1 T) :: (T, spanObj [(p : Int), (p + runN tokC l p + 1 : Nat), p, (p + runN tokC l p : Nat)]) :: own)) → OwnOff ((M, matchObj (S l) t P p l.length 1 T) :: (T, spanObj [(p : Int), (p + runN tokC l p + 1 : Nat), p, (p + runN tokC l p : Nat)]) :: own) [D] → Q (.ref M) { s with heap := h' })
    (no : ¬ (1 ≤ runN tokC l p ∧ l[p + runN tokC l p]? = some 61) → Q .none s) :
    wpAny (model prog w) A (call (.builtin "re.Pattern.match") [.ref P, .str (S l) t, .int (p : Int) u]) Q E s := by
  refine call_key (H.keeps F.keep) (by omega) hp ?_ ?_
  · intro n hn h1 h2
    subst hn
    have hlt : p + runN tokC l p < l.length := (List.getElem?_eq_some_iff.mp h2).1
    have hc := Nat.le_trans (cut_len l p (p + runN tokC l p)) hl
    obtain ⟨F', N', off'⟩ := two_new (o1 := spanObj [(p : Int), (p + runN tokC l p + 1 : Nat), p, (p + runN tokC l p : Nat)]) (o2 := matchObj (S l) t P p l.length 1 s.heap.objs.size) F N off rfl rfl
    exact yes _ _ _ ⟨h1, h2⟩ (by omega) hc (by rw [S_len]; exact hc) F' N' off'
  · intro h
    exact no fun ⟨h1, h2⟩ => h.elim (fun e => by omega) fun e => e h2
theorem tok_W {p : Nat} (H : PatAt h₀ P cT 0) (F : Fr h₀ L s.heap m) (N : News h₀ L s.heap ([(D, o)] ++ own)) (off : OwnOff own [D]) (hl : l.length ≤ 500) (hp : p ≤ l.length)
    (yes : ∀ M T h', 1 ≤ runN tokC l p → (cut l p (p + runN tokC l p)).length ≤ 500 → (S (cut l p (p + runN tokC l p))).length ≤ 500 → Fr h₀ L h' m →
      News h₀ L h' ([(D, o)] ++ ((M, matchObj (S l) t P p l.length (-1) T) :: (T, spanObj [(p : Int), (p + runN tokC l p : Nat)]) :: own)) → OwnOff ((M, matchObj (S l) t P p l.length (-1) T) :: (T, spanObj [(p : Int), (p + runN tokC l p : Nat)]) :: own) [D] → Q (.ref M) { s with heap := h' })
    (no : ¬ 1 ≤ runN tokC l p → Q .none s) :
    wpAny (model prog w) A (call (.builtin "re.Pattern.match") [.ref P, .str (S l) t, .int (p : Int) u]) Q E s := by
  refine call_tok (H.keeps F.keep) (by omega) hp ?_ ?_
  · intro n hn h1
    subst hn
    have hc := Nat.le_trans (cut_len l p (p + runN tokC l p)) hl
    obtain ⟨F', N', off'⟩ := two_new (o1 := spanObj [(p : Int), (p + runN tokC l p : Nat)]) (o2 := matchObj (S l) t P p l.length (-1) s.heap.objs.size) F N off rfl rfl
    exact yes _ _ _ h1 hc (by rw [S_len]; exact hc) F' N' off'
  · intro h
    exact no (by omega)
theorem delim_W {p : Nat} {i : Int} (H : PatAt h₀ P cD 0) (F : Fr h₀ L s.heap m) (N : News h₀ L s.heap ([(D, o)] ++ own)) (off : OwnOff own [D]) (hl : l.length ≤ 500) (hi : i = (p : Int)) (hp : p ≤ l.length)
    (yes : ∀ M T h' d, searchD (l.drop p) = some d → p + d + 1 + runN blankC l (p + d + 1) ≤ l.length → Fr h₀ L h' m →
      News h₀ L h' ([(D, o)] ++ ((M, matchObj (S l) t P p l.length (-1) T) :: (T, spanObj [((p + d : Nat) : Int), (p + d + 1 + runN blankC l (p + d + 1) : Nat)]) :: own)) → OwnOff ((M, matchObj (S l) t P p l.length (-1) T) :: (T, spanObj [((p + d : Nat) : Int), (p + d + 1 + runN blankC l (p + d + 1) : Nat)]) :: own) [D] → Q (.ref M) { s with heap := h' })
    (no : searchD (l.drop p) = none → Q .none s) :
    wpAny (model prog w) A (call (.builtin "re.Pattern.search") [.ref P, .str (S l) t, .int i u]) Q E s := by
  subst hi
  refine call_delim (H.keeps F.keep) (by omega) hp ?_ no
  · intro d n hd hn
    subst hn
    have hlt := searchD_lt hd
    rw [List.length_drop] at hlt
    have hr := runN_le blankC l (p + d + 1) (by omega)
    obtain ⟨F', N', off'⟩ := two_new (o1 := spanObj [((p + d : Nat) : Int), (p + d + 1 + runN blankC l (p + d + 1) : Nat)]) (o2 := matchObj (S l) t P p l.length (-1) s.heap.objs.size) F N off rfl rfl
    exact yes _ _ _ d hd hr F' N' off'
theorem lower_call {g : List Nat} (hl : (S g).length ≤ 500) (h : ∀ t' k, (S (lowL g)).length ≤ 1500 → (lowL g).length ≤ 1500 → Q (.str (S (lowL g)) t') { s with toks := k }) :
    wpAny (model prog w) A (call (.builtin "str.lower") [.str (S g) t]) Q E s :=
  SCL.lower (by omega) fun hle => by
    have h1 : (S (lowL g)).length ≤ 1500 := by rw [S_lowL]; omega
    have := h s.toks (s.toks + 1) h1 (by rw [S_len] at h1; exact h1)
    rw [S_lowL] at this
    exact this
/-- a pair put behind the row -/
theorem app_T {T : Addr} {ob : Obj} {us : Array Value} {num : Nat} {x : Value} (F : Fr h₀ L s.heap m) (N : News h₀ L s.heap ((T, ob) :: ([(D, listOf us num)] ++ own))) (off : OwnOff own [D]) (hc : ob.cls = .type "tuple") (hsz : us.size ≤ 500)
    (h : ∀ h', Fr h₀ L h' m → News h₀ L h' ([(D, listOf (us.push x) (num + 1))] ++ ((T, ob) :: own)) → OwnOff ((T, ob) :: own) [D] → Q .none { s with heap := h' }) :
    wpAny (model prog w) A (call (.builtin "list.append") [.ref D, x]) Q E s := by
  have hne : T ≠ D := by
    intro e
    have h1 := (N (T, ob) (.head _)).1
    have h2 := (N (D, listOf us num) (.tail _ (List.mem_append_left _ (.head _)))).1
    rw [e, h2] at h1
    have h3 := congrArg Obj.cls (Option.some.inj h1)
    rw [hc] at h3
    exact absurd h3 (by show ¬ (Value.type "list" = Value.type "tuple"); decide)
  refine append_K F N (.tail hne (.head fun p hp => off p hp D (.head _))) (fun h' F' N' => h h' F' (fun p hp => N' p ?_) (off_cons hne off)) (Nat.le_trans hsz (by decide))
  simp only [List.cons_append, List.nil_append, List.mem_cons] at hp ⊢
  rcases hp with h | h | h
  · exact .inr (.inl h)
  · exact .inl h
  · exact .inr (.inr h)
theorem startsQ {q : Nat} {i : Int} {y : Str} (hy : y = S [34]) (hi : i = (q : Int)) (hq : q ≤ l.length) (h : Q (.bool (decide (l[q]? = some 34))) s) : wpAny (model prog w) A (call (.builtin "str.startswith") [.str (S l) t, .str y u, .int i u']) Q E s := by
  subst hi hy
  refine SC.startswith3 ?_
  have e : Txt.startswith3 (S l) (S [34]) (q : Int) = decide (l[q]? = some 34) := by
    unfold Txt.startswith3
    have e1 : fromIndex (S l).length (q : Int) = q := by
      unfold fromIndex
      rw [if_neg (by omega)]; omega
    rw [e1, subAt_S, S_len, Bool.eq_iff_iff, decide_eq_true_eq]
    show ((decide (q + 1 ≤ l.length)) && ((l.drop q).take 1 == [34])) = true ↔ _
    have := StrLaws.take1_drop (l := l) (c := 34) (i := q)
    rw [Bool.and_eq_true, decide_eq_true_eq, this]
    constructor
    · exact fun h => h.2
    · intro h
      obtain ⟨hlt, _⟩ := List.getElem?_eq_some_iff.mp h
      exact ⟨by omega, h⟩
  rw [e]; exact h
theorem slice_ss0 {value slice : PySem.Expr} {x : Str} {t : Tok} {i j : Int} {ui uj : Tok}
    (h : ∀ h' t' k, s.heap.StaysIn h' → Q (.str (Txt.slice x (some i) (some j)) t') { s with heap := h', toks := k })
    (hs : subscripted slice false (.str x t) (.ref s.heap.objs.size) = operate [.ref s.heap.objs.size, .str x t] (getItem (.str x t) (.ref s.heap.objs.size)) := by with_unfolding_all rfl)
    (ht : ∀ r, letTemporaryGo value (.str x t) r = pure () := by intro _; with_unfolding_all rfl) (hsz : x.length ≤ sizeLine := by size_fits) :
    wpAny (model prog w) A (subscriptTail value slice (.str x t) (.ref s.heap.objs.size)) Q E { s with heap := s.heap.push { cls := .type "slice", data := .fields #[.int i ui, .int j uj, .none] } } :=
  tail_of_ItemOn (SBH.sliceItem_ss (P := fun h => s.heap.StaysIn h) (fun _ ob k b o e => Heap.get?_push_of_some ob (k b o e)) (fun _ _ e => e) (fun h' t' k a => h h' t' k a) hsz) hs ht
end
end Mine
end
section
open PySem PySem.W PyProof.Rows PySem.Calls PySem.Spec PySem.Builtin PySem.Builtin.Str
namespace Mine
open RE
def QInv (l : List Nat) (q0 q : Nat) : Prop := q0 ≤ q ∧ q ≤ l.length ∧ qs (l.drop q0) = (qs (l.drop q)).map (· + (q - q0))
theorem qinv_0 {l : List Nat} {q0 : Nat} (h : q0 ≤ l.length) : QInv l q0 q0 := ⟨Nat.le_refl _, h, by simp⟩
theorem drop_two {l : List Nat} {q c d : Nat} (h : (l.drop q).take 2 = [c, d]) : l.drop q = c :: d :: l.drop (q + 2) ∧ q + 2 ≤ l.length := by
  have e : l.drop q = (l.drop q).take 2 ++ (l.drop q).drop 2 := (List.take_append_drop 2 _).symm
  rw [h, List.drop_drop] at e
  refine ⟨e, ?_⟩
  have := congrArg List.length h
  simp at this; omega
theorem stAt_2 {l : List Nat} {q c d : Nat} (h : stAt (S l) (S [c, d]) q = true) : l.drop q = c :: d :: l.drop (q + 2) ∧ q + 2 ≤ l.length := by
  unfold stAt at h
  rw [Bool.and_eq_true, subAt_S] at h
  exact drop_two (by simpa using h.2)
theorem stAt_2n {l : List Nat} {q c d : Nat} (h : stAt (S l) (S [c, d]) q = false) : (l.drop q).take 2 ≠ [c, d] := by
  intro e
  have h1 := (drop_two e).2
  unfold stAt at h
  rw [subAt_S, S_len, S_len] at h
  have h2 : ((l.drop q).take [c, d].length == [c, d]) = true := by simpa using e
  rw [h2, Bool.and_true, decide_eq_false_iff_not] at h
  exact h h1
theorem bs2 : Str.ofString "\\\\" = S [92, 92] := by decide +kernel
theorem bq2 : Str.ofString "\\\"" = S [92, 34] := by decide +kernel
theorem omap_add (o : Option Nat) (a b : Nat) : (o.map (· + a)).map (· + b) = o.map (· + (a + b)) := by
  cases o with
  | none => rfl
  | some x => simp [Nat.add_assoc]
theorem qinv_2 {l : List Nat} {q0 q : Nat} (h : QInv l q0 q) (hb : (stAt (S l) (Str.ofString "\\\\") q || stAt (S l) (Str.ofString "\\\"") q) = true) : QInv l q0 (q + 2) ∧ q + 2 ≤ l.length := by
  obtain ⟨h1, h2, h3⟩ := h
  rw [bs2, bq2, Bool.or_eq_true] at hb
  have key : ∃ d, (d = 92 ∨ d = 34) ∧ l.drop q = 92 :: d :: l.drop (q + 2) ∧ q + 2 ≤ l.length := by
    rcases hb with hb | hb
    · exact ⟨92, .inl rfl, stAt_2 hb⟩
    · exact ⟨34, .inr rfl, stAt_2 hb⟩
  obtain ⟨d, hd, e, hl⟩ := key
  refine ⟨⟨by omega, hl, ?_⟩, hl⟩
  rw [h3, e]
  have : qs (92 :: d :: l.drop (q + 2)) = (qs (l.drop (q + 2))).map (· + 2) := by
    rw [qs, if_pos ⟨rfl, hd⟩]
  rw [this, omap_add, show 2 + (q - q0) = q + 2 - q0 by omega]
theorem drop_one {l : List Nat} {q : Nat} (h : q < l.length) : l.drop q = l[q] :: l.drop (q + 1) := List.drop_eq_getElem_cons h
theorem qs_other {c : Nat} {r : List Nat} (h1 : c ≠ 34) (h2 : ¬ (c = 92 ∧ ∃ d s, r = d :: s ∧ (d = 92 ∨ d = 34))) : qs (c :: r) = (qs r).map (· + 1) := by
  cases r with
  | nil => show (if c = 34 then some 1 else none) = _; rw [if_neg h1]; rfl
  | cons d s => rw [qs, if_neg (fun h => h2 ⟨h.1, d, s, rfl, h.2⟩), if_neg h1]
theorem qs_close {r : List Nat} : qs (34 :: r) = some 1 := by
  cases r with
  | nil => rfl
  | cons d s => rw [qs, if_neg (by simp), if_pos rfl]
theorem qinv_1 {l : List Nat} {q0 q : Nat} (h : QInv l q0 q) (hlt : (q : Int) < ((S l).length : Int)) (hb : (stAt (S l) (Str.ofString "\\\\") q || stAt (S l) (Str.ofString "\\\"") q) = false) (hn : ¬ l[q]? = some 34) : QInv l q0 (q + 1) ∧ q + 1 ≤ l.length := by
  obtain ⟨h1, h2, h3⟩ := h
  rw [S_len] at hlt
  have hlt' : q < l.length := by omega
  rw [bs2, bq2, Bool.or_eq_false_iff] at hb
  refine ⟨⟨by omega, by omega, ?_⟩, by omega⟩
  rw [h3, drop_one hlt', qs_other (fun e => hn (by rw [List.getElem?_eq_getElem hlt', e])), omap_add, show 1 + (q - q0) = q + 1 - q0 by omega]
  · rintro ⟨hc, d, s, e, hd⟩
    have e2 : (l.drop q).take 2 = [92, d] := by rw [drop_one hlt', hc, e]; rfl
    rcases hd with rfl | rfl
    · exact stAt_2n hb.1 e2
    · exact stAt_2n hb.2 e2
theorem qinv_end {l : List Nat} {q0 q : Nat} (h : QInv l q0 q) (hn : l[q]? = some 34) : qs (l.drop q0) = some (q + 1 - q0) ∧ q + 1 ≤ l.length ∧ q0 ≤ q := by
  obtain ⟨h1, h2, h3⟩ := h
  obtain ⟨hlt, e⟩ := List.getElem?_eq_some_iff.mp hn
  refine ⟨?_, by omega, h1⟩
  rw [h3, drop_one hlt, e, qs_close]
  show some (1 + (q - q0)) = _
  congr 1; omega
theorem qinv_none {l : List Nat} {q0 q : Nat} (h : QInv l q0 q) (hlt : ¬ (q : Int) < ((S l).length : Int)) : qs (l.drop q0) = none := by
  obtain ⟨h1, h2, h3⟩ := h
  rw [S_len] at hlt
  rw [h3, List.drop_eq_nil_of_le (by omega)]; rfl
-- the head's five ways
section
variable {l : List Nat} {p : Nat}
theorem ph_nokey (h : ¬ (1 ≤ runN tokC l p ∧ l[p + runN tokC l p]? = some 61)) : poHead l p = some ([], p) := by
  unfold poHead; simp only [if_neg h]
theorem ph_tok (h : 1 ≤ runN tokC l p ∧ l[p + runN tokC l p]? = some 61) (h2 : 1 ≤ runN tokC l (p + runN tokC l p + 1)) :
    poHead l p = some ([(lowL (cut l p (p + runN tokC l p)), cut l (p + runN tokC l p + 1) (p + runN tokC l p + 1 + runN tokC l (p + runN tokC l p + 1)))], p + runN tokC l p + 1) := by
  unfold poHead; simp only [if_pos h, if_pos h2]; rfl
theorem ph_quo {q : Nat} (h : 1 ≤ runN tokC l p ∧ l[p + runN tokC l p]? = some 61) (h2 : ¬ 1 ≤ runN tokC l (p + runN tokC l p + 1)) (h3 : l[p + runN tokC l p + 1]? = some 34) (hq : QInv l (p + runN tokC l p + 1 + 1) q) (h4 : l[q]? = some 34) :
    poHead l p = some ([(lowL (cut l p (p + runN tokC l p)), cut l (p + runN tokC l p + 1) (q + 1))], q + 1) := by
  obtain ⟨e1, e2, e3⟩ := qinv_end hq h4
  have e4 : p + runN tokC l p + 1 + 1 + (q + 1 - (p + runN tokC l p + 1 + 1)) = q + 1 := by omega
  unfold poHead; simp only [if_pos h, if_neg h2, if_pos h3, e1, e4]; rfl
theorem ph_stop {q : Nat} (h : 1 ≤ runN tokC l p ∧ l[p + runN tokC l p]? = some 61) (h2 : ¬ 1 ≤ runN tokC l (p + runN tokC l p + 1)) (h3 : l[p + runN tokC l p + 1]? = some 34) (hq : QInv l (p + runN tokC l p + 1 + 1) q) (h4 : ¬ (q : Int) < ((S l).length : Int)) : poHead l p = none := by
  have e1 := qinv_none hq h4
  unfold poHead; simp only [if_pos h, if_neg h2, if_pos h3, e1]
theorem ph_none (h : 1 ≤ runN tokC l p ∧ l[p + runN tokC l p]? = some 61) (h2 : ¬ 1 ≤ runN tokC l (p + runN tokC l p + 1)) (h3 : ¬ l[p + runN tokC l p + 1]? = some 34) : poHead l p = some ([], p + runN tokC l p + 1) := by
  unfold poHead; simp only [if_pos h, if_neg h2, if_neg h3]
end
abbrev PairL := List Nat × List Nat
section
variable {l : List Nat} {p n : Nat} {ps xs all : List PairL} {q d : Nat}
theorem pr_end (h : ps ++ poRun (n + 1) l p = all) (hlt : ¬ (p : Int) < ((S l).length : Int)) : ps = all := by
  rw [S_len] at hlt
  rw [poRun, if_pos (by omega), List.append_nil] at h; exact h
theorem pr_stop (h : ps ++ poRun (n + 1) l p = all) (hh : poHead l p = none) : ps = all := by
  rw [poRun, hh] at h
  split at h <;> simpa using h
theorem pr_brk (h : ps ++ poRun (n + 1) l p = all) (hlt : (p : Int) < ((S l).length : Int)) (hh : poHead l p = some (xs, q)) (hd : searchD (l.drop q) = none) : ps ++ xs = all := by
  rw [S_len] at hlt
  rw [poRun, if_neg (by omega), hh] at h
  simp only [hd] at h; exact h
theorem pr_go (h : ps ++ poRun (n + 1) l p = all) (hlt : (p : Int) < ((S l).length : Int)) (hh : poHead l p = some (xs, q)) (hd : searchD (l.drop q) = some d) : (ps ++ xs) ++ poRun n l (q + d + 1 + runN blankC l (q + d + 1)) = all := by
  rw [S_len] at hlt
  rw [poRun, if_neg (by omega), hh] at h
  simp only [hd] at h
  rw [List.append_assoc]; exact h
end
theorem poHead_le {l : List Nat} {p q : Nat} {xs : List PairL} (h : poHead l p = some (xs, q)) : p ≤ q := by
  unfold poHead at h
  simp only at h
  split at h
  · split at h
    · cases h; omega
    · split at h
      · split at h
        · cases h
        · cases h; omega
      · cases h; omega
  · cases h; exact Nat.le_refl _
/-- tuple objects of these pairs -/
inductive TupsObj : List (Addr × Obj) → List PairL → Prop
  | nil : TupsObj [] []
  | cons {a : Addr} {k v : List Nat} {tk tv : Tok} {r : List (Addr × Obj)} {ps : List PairL} : TupsObj r ps → TupsObj ((a, { cls := .type "tuple", data := .seq [Value.str (S k) tk, .str (S v) tv].toArray }) :: r) ((k, v) :: ps)
def TupsAre (us : Array Value) (tups : List (Addr × Obj)) (ps : List PairL) : Prop := us.toList = tups.map (fun p => Value.ref p.1) ∧ TupsObj tups ps
theorem TupsObj.len {r : List (Addr × Obj)} {ps : List PairL} (h : TupsObj r ps) : r.length = ps.length := by
  induction h with
  | nil => rfl
  | cons _ ih => simp [ih]
theorem TupsObj.app {r r' : List (Addr × Obj)} {ps ps' : List PairL} (h : TupsObj r ps) (h' : TupsObj r' ps') : TupsObj (r ++ r') (ps ++ ps') := by
  induction h with
  | nil => exact h'
  | cons _ ih => exact .cons ih
theorem TupsAre.push {us : Array Value} {tups : List (Addr × Obj)} {ps : List PairL} {a : Addr} {k v : List Nat} {tk tv : Tok} (h : TupsAre us tups ps) :
    TupsAre (us.push (.ref a)) (tups ++ [(a, { cls := .type "tuple", data := .seq [Value.str (S k) tk, .str (S v) tv].toArray })]) (ps ++ [(k, v)]) :=
  ⟨by rw [Array.toList_push, h.1, List.map_append]; rfl, h.2.app (.cons .nil)⟩
theorem TupsAre.size {us : Array Value} {tups : List (Addr × Obj)} {ps : List PairL} (h : TupsAre us tups ps) : us.size = ps.length := by
  rw [← Array.length_toList, h.1, List.length_map, h.2.len]
section
variable {prog : Program} {w : World} {A : Around} {E : Value → Shared → Prop} {s : Shared} {h₀ : Heap} {L D : Addr} {m₀ : Str → Option Value} {o : Obj} {own : List (Addr × Obj)} {l : List Nat} {env : Env} {test : Expr} {body orelse : List Stmt} {pos : Pos} {Q : Flow → Shared → Prop}
abbrev qpN : Str := Str.ofString "quote_pos"
def InFin (h₀ : Heap) (L D : Addr) (m₀ : Str → Option Value) (o : Obj) (own : List (Addr × Obj)) (l : List Nat) (q0 q : Nat) (s₁ s₂ : Shared) : Prop :=
  ∃ h' tk m' news' q' tq', s₂ = { s₁ with heap := h', toks := tk } ∧ Fr h₀ L h' m' ∧ News h₀ L h' news' ∧ (∀ p ∈ [(D, o)] ++ own, p ∈ news') ∧ q < q' ∧ QInv l q0 q' ∧ m' (Str.ofString "quote_pos") = some (.int (q' : Int) tq') ∧ (∀ z, z ≠ Str.ofString "quote_pos" → m' z = m₀ z)
def InEnd (h₀ : Heap) (L D : Addr) (m₀ : Str → Option Value) (o : Obj) (own : List (Addr × Obj)) (l : List Nat) (q0 q : Nat) (s₁ : Shared) (Q : Flow → Shared → Prop) (f : Flow) (s₂ : Shared) : Prop :=
  match f with
  | .ret v => Q (.ret v) s₂
  | .brk => Q .next s₂
  | _ => InFin h₀ L D m₀ o own l q0 q s₁ s₂
theorem in_loop {q0 : Nat} {i0 : Int} {t0 : Tok} (F : Fr h₀ L s.heap m₀) (N : News h₀ L s.heap ([(D, o)] ++ own)) (hi : i0 = (q0 : Int)) (k1 : m₀ (Str.ofString "quote_pos") = some (.int i0 t0)) (hq : q0 ≤ l.length)
    (turn : ∀ q tq h tk, QInv l q0 q → Fr h₀ L h (fun y => if y = Str.ofString "quote_pos" then some (.int (q : Int) tq) else m₀ y) → News h₀ L h ([(D, o)] ++ own) →
      wpAny (model prog w) A (isTrue test env (eval test env)) (fun b s₂ =>
        if b = true then wpAny (model prog w) A (execs body env) (InEnd h₀ L D m₀ o own l q0 q { s with heap := h, toks := tk } Q) E s₂ else wpAny (model prog w) A (execs orelse env) Q E s₂) E { s with heap := h, toks := tk })
    (hE : PassesOwn (model prog w) A env E) :
    wpAny (model prog w) A (exec (.While test body orelse pos) env) Q E s := by
  subst hi
  refine While_else (fun n m nx => nx = [(D, o)] ++ own ∧ ∃ q tq, n = l.length - q ∧ QInv l q0 q ∧ m (Str.ofString "quote_pos") = some (.int (q : Int) tq) ∧ ∀ z, z ≠ Str.ofString "quote_pos" → m z = m₀ z) F N ⟨rfl, q0, t0, rfl, qinv_0 hq, k1, fun _ _ => rfl⟩ ?_ hE
  rintro n m₁ nx h tk F₁ N₁ ⟨rfl, q, tq, rfl, hQ, e1, e2⟩
  have hf : m₁ = fun y => if y = Str.ofString "quote_pos" then some (.int (q : Int) tq) else m₀ y := funext fun y => by
    by_cases e : y = Str.ofString "quote_pos"
    · rw [if_pos e, e, e1]
    · rw [if_neg e]; exact e2 y e
  rw [hf] at F₁
  refine wpAny_mono (turn q tq h tk hQ F₁ N₁) (fun b s₂ hb => ?_) fun _ _ e => e
  cases b with
  | false => exact hb
  | true =>
    simp only [if_true] at hb ⊢
    refine wpAny_mono hb (fun f s₃ hf => ?_) fun _ _ e => e
    have fin : InFin h₀ L D m₀ o own l q0 q { s with heap := h, toks := tk } s₃ → ∃ h' tk' m₂ news₂ n', s₃ = { s with heap := h', toks := tk' } ∧ Fr h₀ L h' m₂ ∧ News h₀ L h' news₂ ∧ n' < l.length - q ∧ (news₂ = [(D, o)] ++ own ∧ ∃ q tq, n' = l.length - q ∧ QInv l q0 q ∧ m₂ (Str.ofString "quote_pos") = some (.int (q : Int) tq) ∧ ∀ z, z ≠ Str.ofString "quote_pos" → m₂ z = m₀ z) := by
      rintro ⟨h', tk', m', news', q', tq', rfl, F', N', g1, g2, g3, g4, g5⟩
      exact ⟨h', tk', m', _, l.length - q', rfl, F', fun p hp => N' p (g1 p hp), by have := g3.2.1; omega, rfl, q', tq', rfl, g3, g4, g5⟩
    cases f with
    | ret v => exact hf
    | brk => exact hf
    | next => exact fin hf
    | cont => exact fin hf
def outN (z : Str) : Prop := z = Str.ofString "scan_pos" ∨ z = Str.ofString "m_key" ∨ z = Str.ofString "pk" ∨ z = Str.ofString "m_value" ∨ z = Str.ofString "quote_pos" ∨ z = Str.ofString "m_delim"
def outF (v : Option Value) (u m₀ : Str → Option Value) : Str → Option Value := fun y => if y = Str.ofString "scan_pos" then v else if y = Str.ofString "m_key" then u y else if y = Str.ofString "pk" then u y else if y = Str.ofString "m_value" then u y else if y = Str.ofString "quote_pos" then u y else if y = Str.ofString "m_delim" then u y else m₀ y
theorem outF_eq {u m₀ : Str → Option Value} {v : Option Value} (h1 : u (Str.ofString "scan_pos") = v) (h : ∀ z, ¬ outN z → u z = m₀ z) : u = outF v u m₀ := funext fun y => by
  unfold outF
  by_cases e1 : y = Str.ofString "scan_pos"
  · rw [if_pos e1, e1, h1]
  rw [if_neg e1]
  by_cases e2 : y = Str.ofString "m_key"
  · rw [if_pos e2]
  rw [if_neg e2]
  by_cases e3 : y = Str.ofString "pk"
  · rw [if_pos e3]
  rw [if_neg e3]
  by_cases e4 : y = Str.ofString "m_value"
  · rw [if_pos e4]
  rw [if_neg e4]
  by_cases e5 : y = Str.ofString "quote_pos"
  · rw [if_pos e5]
  rw [if_neg e5]
  by_cases e6 : y = Str.ofString "m_delim"
  · rw [if_pos e6]
  rw [if_neg e6]
  exact h y (by rintro (e | e | e | e | e | e) <;> contradiction)
def OutFin (h₀ : Heap) (L D : Addr) (m₀ : Str → Option Value) (all : List PairL) (s₁ s₂ : Shared) : Prop :=
  ∃ h' tk m' news' us' num' tups', s₂ = { s₁ with heap := h', toks := tk } ∧ Fr h₀ L h' m' ∧ News h₀ L h' news' ∧ (D, listOf us' num') ∈ news' ∧ (∀ p ∈ tups', p ∈ news') ∧ OwnOff tups' [D] ∧ TupsAre us' tups' all ∧ (∀ z, ¬ outN z → m' z = m₀ z)
def OutGo (h₀ : Heap) (L D : Addr) (m₀ : Str → Option Value) (all : List PairL) (l : List Nat) (n p : Nat) (s₁ s₂ : Shared) : Prop :=
  ∃ h' tk m' news' us' num' tups' ps' p' tp', s₂ = { s₁ with heap := h', toks := tk } ∧ Fr h₀ L h' m' ∧ News h₀ L h' news' ∧ (D, listOf us' num') ∈ news' ∧ (∀ p ∈ tups', p ∈ news') ∧ OwnOff tups' [D] ∧ TupsAre us' tups' ps' ∧ ps' ++ poRun n l p' = all ∧ p < p' ∧ p' ≤ l.length ∧ m' (Str.ofString "scan_pos") = some (.int (p' : Int) tp') ∧ (∀ z, ¬ outN z → m' z = m₀ z)
def OutEnd (h₀ : Heap) (L D : Addr) (m₀ : Str → Option Value) (all : List PairL) (l : List Nat) (n p : Nat) (s₁ : Shared) (Q : Flow → Shared → Prop) (f : Flow) (s₂ : Shared) : Prop :=
  match f with
  | .ret v => Q (.ret v) s₂
  | .brk => OutFin h₀ L D m₀ all s₁ s₂
  | _ => OutGo h₀ L D m₀ all l n p s₁ s₂
theorem out_loop {all : List PairL} {t0 : Tok} (F : Fr h₀ L s.heap m₀) (N : News h₀ L s.heap [(D, listOf #[] 0)]) (k1 : m₀ (Str.ofString "scan_pos") = some (.int 0 t0)) (hall : poRun (l.length + 1) l 0 = all) (hcap : all.length ≤ 500)
    (turn : ∀ (n p : Nat) (tp : Tok) (us : Array Value) (num : Nat) (tups : List (Addr × Obj)) (ps : List PairL) (u : Str → Option Value) (h : Heap) (tk : Nat), ps ++ poRun (n + 1) l p = all → p ≤ l.length → TupsAre us tups ps → us.size ≤ 500 → OwnOff tups [D] →
      Fr h₀ L h (fun y => if y = Str.ofString "scan_pos" then some (.int (p : Int) tp) else if y = Str.ofString "m_key" then u y else if y = Str.ofString "pk" then u y else if y = Str.ofString "m_value" then u y else if y = Str.ofString "quote_pos" then u y else if y = Str.ofString "m_delim" then u y else m₀ y) → News h₀ L h ([(D, listOf us num)] ++ tups) →
      wpAny (model prog w) A (isTrue test env (eval test env)) (fun b s₂ =>
        if b = true then wpAny (model prog w) A (execs body env) (OutEnd h₀ L D m₀ all l n p { s with heap := h, toks := tk } Q) E s₂ else OutFin h₀ L D m₀ all { s with heap := h, toks := tk } s₂) E { s with heap := h, toks := tk })
    (done : ∀ (us : Array Value) (num : Nat) (tups : List (Addr × Obj)) (u : Str → Option Value) (h : Heap) (tk : Nat), TupsAre us tups all → us.size ≤ 500 → OwnOff tups [D] →
      Fr h₀ L h (fun y => if y = Str.ofString "scan_pos" then u y else if y = Str.ofString "m_key" then u y else if y = Str.ofString "pk" then u y else if y = Str.ofString "m_value" then u y else if y = Str.ofString "quote_pos" then u y else if y = Str.ofString "m_delim" then u y else m₀ y) → News h₀ L h ([(D, listOf us num)] ++ tups) → Q .next { s with heap := h, toks := tk })
    (hE : PassesOwn (model prog w) A env E) :
    wpAny (model prog w) A (exec (.While test body [] pos) env) Q E s := by
  have fin : ∀ h tk s₂, OutFin h₀ L D m₀ all { s with heap := h, toks := tk } s₂ → Q .next s₂ := by
    rintro h tk s₂ ⟨h', tk', m', news', us', num', tups', rfl, F', N', g1, g2, g3, g4, g5⟩
    refine done us' num' tups' m' h' tk' g4 (by rw [g4.size]; exact hcap) g3 ?_ fun p hp => N' p ?_
    · have := outF_eq rfl g5
      rw [this] at F'
      have e : outF (m' (Str.ofString "scan_pos")) m' m₀ = fun y => if y = Str.ofString "scan_pos" then m' y else if y = Str.ofString "m_key" then m' y else if y = Str.ofString "pk" then m' y else if y = Str.ofString "m_value" then m' y else if y = Str.ofString "quote_pos" then m' y else if y = Str.ofString "m_delim" then m' y else m₀ y := funext fun y => by
        unfold outF
        by_cases e : y = Str.ofString "scan_pos"
        · rw [if_pos e, if_pos e, e]
        · rw [if_neg e, if_neg e]
      rw [e] at F'
      exact F'
    · rcases List.mem_append.mp hp with hp | hp
      · rw [List.mem_singleton.mp hp]; exact g1
      · exact g2 p hp
  refine While_else (fun n m nx => ∃ us num tups ps p tp, nx = [(D, listOf us num)] ++ tups ∧ TupsAre us tups ps ∧ OwnOff tups [D] ∧ ps ++ poRun n l p = all ∧ p ≤ l.length ∧ l.length + 1 ≤ n + p ∧ m (Str.ofString "scan_pos") = some (.int (p : Int) tp) ∧ ∀ z, ¬ outN z → m z = m₀ z) F N (n₀ := l.length + 1)
    ⟨#[], 0, [], [], 0, t0, rfl, ⟨rfl, .nil⟩, (fun p hp => nomatch hp), hall, Nat.zero_le _, Nat.le_refl _, k1, fun _ _ => rfl⟩ ?_ hE
  rintro n m₁ nx h tk F₁ N₁ ⟨us, num, tups, ps, p, tp, rfl, hT, hoff, hps, hpl, hfuel, e1, e2⟩
  obtain ⟨n, rfl⟩ : ∃ k, n = k + 1 := ⟨n - 1, by omega⟩
  have hsz : us.size ≤ 500 := by
    rw [hT.size]
    have := congrArg List.length hps
    rw [List.length_append] at this
    omega
  have hf := outF_eq e1 e2
  rw [hf] at F₁
  refine wpAny_mono (turn n p tp us num tups ps m₁ h tk hps hpl hT hsz hoff F₁ N₁) (fun b s₂ hb => ?_) fun _ _ e => e
  cases b with
  | false =>
    simp only [Bool.false_eq_true, if_false] at hb ⊢
    exact wpAny_execs_nil (fin _ _ _ hb)
  | true =>
    simp only [if_true] at hb ⊢
    refine wpAny_mono hb (fun f s₃ hf => ?_) fun _ _ e => e
    have go : OutGo h₀ L D m₀ all l n p { s with heap := h, toks := tk } s₃ → ∃ h' tk' m₂ news₂ n', s₃ = { s with heap := h', toks := tk' } ∧ Fr h₀ L h' m₂ ∧ News h₀ L h' news₂ ∧ n' < n + 1 ∧ ∃ us num tups ps p tp, news₂ = [(D, listOf us num)] ++ tups ∧ TupsAre us tups ps ∧ OwnOff tups [D] ∧ ps ++ poRun n' l p = all ∧ p ≤ l.length ∧ l.length + 1 ≤ n' + p ∧ m₂ (Str.ofString "scan_pos") = some (.int (p : Int) tp) ∧ ∀ z, ¬ outN z → m₂ z = m₀ z := by
      rintro ⟨h', tk', m', news', us', num', tups', ps', p', tp', rfl, F', N', g1, g2, g3, g4, g5, g6, g7, g8, g9⟩
      refine ⟨h', tk', m', _, n, rfl, F', fun p hp => N' p ?_, Nat.lt_succ_self _, us', num', tups', ps', p', tp', rfl, g4, g3, g5, g7, by omega, g8, g9⟩
      rcases List.mem_append.mp hp with hp | hp
      · rw [List.mem_singleton.mp hp]; exact g1
      · exact g2 p hp
    cases f with
    | ret v => exact hf
    | brk => exact fin _ _ _ hf
    | next => exact go hf
    | cont => exact go hf
end
section
variable {l : List Nat} {p n q d : Nat} {ps all : List PairL} {us : Array Value} {tups : List (Addr × Obj)} {k v : List Nat} {a : Addr} {tk tv : Tok}
theorem lt_of_get {c : Nat} (h : l[q]? = some c) : q + 1 ≤ l.length := (List.getElem?_eq_some_iff.mp h).1
theorem brk0 (hT : TupsAre us tups ps) (h : ps ++ poRun (n + 1) l p = all) (hlt : (p : Int) < ((S l).length : Int)) (hh : poHead l p = some ([], q)) (hd : searchD (l.drop q) = none) : TupsAre us tups all := by
  have := pr_brk h hlt hh hd
  rw [List.append_nil] at this
  exact this ▸ hT
theorem brk1 (hT : TupsAre us tups ps) (h : ps ++ poRun (n + 1) l p = all) (hlt : (p : Int) < ((S l).length : Int)) (hh : poHead l p = some ([(k, v)], q)) (hd : searchD (l.drop q) = none) :
    TupsAre (us.push (.ref a)) (tups ++ [(a, { cls := .type "tuple", data := .seq [Value.str (S k) tk, .str (S v) tv].toArray })]) all := by
  have := pr_brk h hlt hh hd
  rw [← this]; exact hT.push
theorem stop0 (hT : TupsAre us tups ps) (h : ps ++ poRun (n + 1) l p = all) (hh : poHead l p = none) : TupsAre us tups all := (pr_stop h hh) ▸ hT
theorem go0 (h : ps ++ poRun (n + 1) l p = all) (hlt : (p : Int) < ((S l).length : Int)) (hh : poHead l p = some ([], q)) (hd : searchD (l.drop q) = some d) : ps ++ poRun n l (q + d + 1 + runN blankC l (q + d + 1)) = all := by
  have := pr_go h hlt hh hd
  rw [List.append_nil] at this; exact this
theorem go_lt {xs : List PairL} (hh : poHead l p = some (xs, q)) (r : Nat) : p < q + d + 1 + r := by have := poHead_le hh; omega
theorem off_sub {own : List (Addr × Obj)} {D : Addr} (off : OwnOff own [D]) (h : ∀ p ∈ tups, p ∈ own) : OwnOff tups [D] := fun p hp => off p (h p hp)
end
section
variable {h₀ : Heap} {L D : Addr} {m₀ m' : Str → Option Value} {all ps' : List PairL} {l : List Nat} {n p p' : Nat} {s₁ : Shared} {h' : Heap} {tk : Nat} {us' : Array Value} {num' : Nat} {tups' own : List (Addr × Obj)} {tp' : Tok}
theorem out_fin (F : Fr h₀ L h' m') (N : News h₀ L h' ([(D, listOf us' num')] ++ own)) (off : OwnOff own [D]) (ht : TupsAre us' tups' all) (ho : ∀ p ∈ tups', p ∈ own) (hm : ∀ z, ¬ outN z → m' z = m₀ z) : OutFin h₀ L D m₀ all s₁ { s₁ with heap := h', toks := tk } :=
  ⟨h', tk, m', _, us', num', tups', rfl, F, N, List.mem_append_left _ (.head _), fun p hp => List.mem_append_right _ (ho p hp), off_sub off ho, ht, hm⟩
theorem out_go (F : Fr h₀ L h' m') (N : News h₀ L h' ([(D, listOf us' num')] ++ own)) (off : OwnOff own [D]) (ht : TupsAre us' tups' ps') (ho : ∀ p ∈ tups', p ∈ own) (hg : ps' ++ poRun n l p' = all) (h1 : p < p') (h2 : p' ≤ l.length) (h3 : m' (Str.ofString "scan_pos") = some (.int (p' : Int) tp')) (hm : ∀ z, ¬ outN z → m' z = m₀ z) : OutGo h₀ L D m₀ all l n p s₁ { s₁ with heap := h', toks := tk } :=
  ⟨h', tk, m', _, us', num', tups', ps', p', tp', rfl, F, N, List.mem_append_left _ (.head _), fun p hp => List.mem_append_right _ (ho p hp), off_sub off ho, ht, hg, h1, h2, h3, hm⟩
end
section
variable {h₀ : Heap} {L D : Addr} {m₀ m' : Str → Option Value} {l : List Nat} {q0 q : Nat} {s₁ : Shared} {h' : Heap} {tk : Nat} {o : Obj} {own news' : List (Addr × Obj)} {tq' : Tok}
theorem in_fin2 (F : Fr h₀ L h' m') (N : News h₀ L h' news') (hs : ∀ p ∈ [(D, o)] ++ own, p ∈ news') (hQ : QInv l q0 q) (hb : (stAt (S l) (Str.ofString "\\\\") q || stAt (S l) (Str.ofString "\\\"") q) = true) (k1 : m' (Str.ofString "quote_pos") = some (.int ((q + 2 : Nat) : Int) tq')) (hm : ∀ z, z ≠ Str.ofString "quote_pos" → m' z = m₀ z) :
    InFin h₀ L D m₀ o own l q0 q s₁ { s₁ with heap := h', toks := tk } := ⟨h', tk, m', news', q + 2, tq', rfl, F, N, hs, by omega, (qinv_2 hQ hb).1, k1, hm⟩
theorem in_fin1 (F : Fr h₀ L h' m') (N : News h₀ L h' news') (hs : ∀ p ∈ [(D, o)] ++ own, p ∈ news') (hQ : QInv l q0 q) (hlt : (q : Int) < ((S l).length : Int)) (hb : (stAt (S l) (Str.ofString "\\\\") q || stAt (S l) (Str.ofString "\\\"") q) = false) (hn : ¬ l[q]? = some 34) (k1 : m' (Str.ofString "quote_pos") = some (.int ((q + 1 : Nat) : Int) tq')) (hm : ∀ z, z ≠ Str.ofString "quote_pos" → m' z = m₀ z) :
    InFin h₀ L D m₀ o own l q0 q s₁ { s₁ with heap := h', toks := tk } := ⟨h', tk, m', news', q + 1, tq', rfl, F, N, hs, by omega, (qinv_1 hQ hlt hb hn).1, k1, hm⟩
end
section
variable {h₀ : Heap} {L D : Addr} {m₀ m' : Str → Option Value} {all ps : List PairL} {l : List Nat} {n p q d : Nat} {s₁ : Shared} {h' : Heap} {tk : Nat} {us : Array Value} {num' : Nat} {tups own : List (Addr × Obj)} {tp' : Tok} {k v : List Nat} {a : Addr} {tk1 tv1 : Tok}
theorem sub_one {x : Addr × Obj} (ho : ∀ p ∈ tups, p ∈ own) (hm : x ∈ own) : ∀ p ∈ tups ++ [x], p ∈ own := fun p hp => (List.mem_append.mp hp).elim (ho p) fun h => by rw [List.mem_singleton.mp h]; exact hm
theorem out_fin1 (F : Fr h₀ L h' m') (N : News h₀ L h' ([(D, listOf (us.push (.ref a)) num')] ++ own)) (off : OwnOff own [D]) (hT : TupsAre us tups ps) (h : ps ++ poRun (n + 1) l p = all) (hlt : (p : Int) < ((S l).length : Int)) (hh : poHead l p = some ([(k, v)], q)) (hd : searchD (l.drop q) = none)
    (hm : (a, ({ cls := .type "tuple", data := .seq [Value.str (S k) tk1, .str (S v) tv1].toArray } : Obj)) ∈ own) (ho : ∀ p ∈ tups, p ∈ own) (hz : ∀ z, ¬ outN z → m' z = m₀ z) : OutFin h₀ L D m₀ all s₁ { s₁ with heap := h', toks := tk } :=
  out_fin F N off (brk1 (tk := tk1) (tv := tv1) hT h hlt hh hd) (sub_one ho hm) hz
theorem out_go1 (F : Fr h₀ L h' m') (N : News h₀ L h' ([(D, listOf (us.push (.ref a)) num')] ++ own)) (off : OwnOff own [D]) (hT : TupsAre us tups ps) (h : ps ++ poRun (n + 1) l p = all) (hlt : (p : Int) < ((S l).length : Int)) (hh : poHead l p = some ([(k, v)], q)) (hd : searchD (l.drop q) = some d)
    (hm : (a, ({ cls := .type "tuple", data := .seq [Value.str (S k) tk1, .str (S v) tv1].toArray } : Obj)) ∈ own) (ho : ∀ p ∈ tups, p ∈ own) (h2 : q + d + 1 + runN blankC l (q + d + 1) ≤ l.length) (h3 : m' (Str.ofString "scan_pos") = some (.int ((q + d + 1 + runN blankC l (q + d + 1) : Nat) : Int) tp')) (hz : ∀ z, ¬ outN z → m' z = m₀ z) : OutGo h₀ L D m₀ all l n p s₁ { s₁ with heap := h', toks := tk } :=
  out_go F N off (TupsAre.push (tk := tk1) (tv := tv1) hT) (sub_one ho hm) (pr_go h hlt hh hd) (go_lt hh _) h2 h3 hz
end
section
variable {prog : Program} {w : World} {A : Around} {E : Value → Shared → Prop} {s : Shared} {h₀ : Heap} {L D : Addr} {m : Str → Option Value} {o : Obj} {own : List (Addr × Obj)} {l : List Nat} {t : Tok} {Q : Value → Shared → Prop}
theorem le_q {a q : Nat} (h : QInv l (a + 1) q) : a ≤ q + 1 := by have := h.1; omega
theorem slice_W {value slice : PySem.Expr} {a b : Nat} {i j : Int} {ui uj : Tok} (hi : i = (a : Int)) (hj : j = (b : Int)) (hab : a ≤ b) (hb : b ≤ l.length) (hl : l.length ≤ 500) (F : Fr h₀ L s.heap m) (N : News h₀ L s.heap ([(D, o)] ++ own))
    (h : ∀ h' t' k, (S (cut l a b)).length ≤ 500 → Fr h₀ L h' m → News h₀ L h' ([(D, o)] ++ own) → Q (.str (S (cut l a b)) t') { s with heap := h', toks := k })
    (hs : subscripted slice false (.str (S l) t) (.ref s.heap.objs.size) = operate [.ref s.heap.objs.size, .str (S l) t] (getItem (.str (S l) t) (.ref s.heap.objs.size)) := by with_unfolding_all rfl)
    (ht : ∀ r, letTemporaryGo value (.str (S l) t) r = pure () := by intro _; with_unfolding_all rfl) :
    wpAny (model prog w) A (subscriptTail value slice (.str (S l) t) (.ref s.heap.objs.size)) Q E { s with heap := s.heap.push { cls := .type "slice", data := .fields #[.int i ui, .int j uj, .none] } } := by
  subst hi hj
  refine slice_ss0 (hsz := by rw [S_len]; exact Nat.le_trans hl (by decide)) (fun h' t' k hst => ?_) hs ht
  have e : Txt.slice (S l) (some (a : Int)) (some (b : Int)) = S (cut l a b) := slice_S hab hb
  rw [e]
  exact h h' t' k (by rw [S_len]; exact Nat.le_trans (cut_len l a b) hl) (fr_stays F hst) (news_stays N hst)
end
end Mine
end
section
open PySem PySem.W PyProof.Rows PySem.Calls PySem.Spec PySem.Builtin PySem.Builtin.Str
namespace Mine
open RE
theorem TupsObj.at {r : List (Addr × Obj)} {ps : List PairL} (h : TupsObj r ps) : ∀ {i : Nat} {p : Addr × Obj}, r[i]? = some p → ∃ k x tk tx, p.2 = { cls := .type "tuple", data := .seq [Value.str (S k) tk, .str (S x) tx].toArray } ∧ ps[i]? = some (k, x) := by
  induction h with
  | nil => intro i p e; simp at e
  | @cons a k v tk tv r ps _ ih =>
    intro i p e
    cases i with
    | zero =>
      simp only [List.getElem?_cons_zero, Option.some.injEq] at e
      subst e
      exact ⟨k, v, tk, tv, rfl, rfl⟩
    | succ i => simpa using ih (by simpa using e)
theorem TupsAre.at {us : Array Value} {tups : List (Addr × Obj)} {ps : List PairL} (h : TupsAre us tups ps) {i : Nat} {v : Value} (e : us[i]? = some v) : ∃ a k x tk tx, v = .ref a ∧ (a, ({ cls := .type "tuple", data := .seq [Value.str (S k) tk, .str (S x) tx].toArray } : Obj)) ∈ tups ∧ ps[i]? = some (k, x) := by
  have e1 : us.toList[i]? = some v := by simpa using e
  rw [h.1, List.getElem?_map] at e1
  cases hp : tups[i]? with
  | none => rw [hp] at e1; cases e1
  | some p =>
    rw [hp] at e1
    obtain ⟨k, x, tk, tx, e2, e3⟩ := h.2.at hp
    refine ⟨p.1, k, x, tk, tx, (Option.some.inj e1).symm, ?_, e3⟩
    rw [← e2]; exact List.mem_of_getElem? hp
def pvStep (rows : List RowL) (p : PairL) : List RowL := putR rows p.1 (some (unq p.2))
theorem pvFold_len : ∀ (l : List PairL) (rows : List RowL), (l.foldl pvStep rows).length ≤ rows.length + l.length
  | [], _ => Nat.le_refl _
  | x :: r, rows => by
    have h1 := pvFold_len r (pvStep rows x)
    have h2 : (pvStep rows x).length ≤ rows.length + 1 := putR_len _ _ _
    simp only [List.foldl_cons, List.length_cons]; omega
/-- what may stand in a pair -/
def PairOk (p : PairL) : Prop := (∃ j, j < 4 ∧ p.1 = keyN j) ∧ p.2.length ≤ 100 ∧ 37 ∉ p.2
def pvOut (z : Str) : Prop := z = Str.ofString "pv" ∨ z = Str.ofString "pk" ∨ z = Str.ofString "has_continuation" ∨ z = Str.ofString "has_charset" ∨ z = Str.ofString "m_mark"
section
variable {w : World} {A : Around} {E : Value → Shared → Prop} {s : Shared} {env : Env} {h₀ : Heap} {body : List Stmt} {Q : Flow → Shared → Prop} {m₀ : Str → Option Value}
def PVFin (h₀ : Heap) (L O : Addr) (m₀ : Str → Option Value) (own : List (Addr × Obj)) (w : World) (rows' : List RowL) (s₁ s₂ : Shared) : Prop :=
  ∃ h' tk m' news' o' kvs', s₂ = { s₁ with heap := h', toks := tk } ∧ Fr h₀ L h' m' ∧ News h₀ L h' news' ∧ (O, o') ∈ news' ∧ (∀ p ∈ own, p ∈ news') ∧ o'.IsDictOf (PySem.strKind PG w) kvs' ∧ RowsAre kvs' rows' ∧ (∀ z, ¬ pvOut z → m' z = m₀ z)
def PVEnd (h₀ : Heap) (L O : Addr) (m₀ : Str → Option Value) (own : List (Addr × Obj)) (w : World) (rows' : List RowL) (s₁ : Shared) (Q : Flow → Shared → Prop) (f : Flow) (s₂ : Shared) : Prop :=
  match f with
  | .ret v => Q (.ret v) s₂
  | .brk => Q .next s₂
  | _ => PVFin h₀ L O m₀ own w rows' s₁ s₂
theorem pv_fr {u m₀ : Str → Option Value} (h : ∀ z, ¬ pvOut z → u z = m₀ z) (a b : Option Value) : (fun y => if y = Str.ofString "pv" then a else if y = Str.ofString "pk" then b else u y) = fun y => if y = Str.ofString "pv" then a else if y = Str.ofString "pk" then b else if y = Str.ofString "has_continuation" then u y else if y = Str.ofString "has_charset" then u y else if y = Str.ofString "m_mark" then u y else m₀ y := funext fun y => by
  by_cases e1 : y = Str.ofString "pv"
  · rw [if_pos e1, if_pos e1]
  rw [if_neg e1, if_neg e1]
  by_cases e2 : y = Str.ofString "pk"
  · rw [if_pos e2, if_pos e2]
  rw [if_neg e2, if_neg e2]
  by_cases e3 : y = Str.ofString "has_continuation"
  · rw [if_pos e3]
  rw [if_neg e3]
  by_cases e4 : y = Str.ofString "has_charset"
  · rw [if_pos e4]
  rw [if_neg e4]
  by_cases e5 : y = Str.ofString "m_mark"
  · rw [if_pos e5]
  rw [if_neg e5]
  exact h y (by rintro (e | e | e | e | e) <;> contradiction)
theorem pv_frd {u m₀ : Str → Option Value} (h : ∀ z, ¬ pvOut z → u z = m₀ z) : u = fun y => if y = Str.ofString "pv" then u y else if y = Str.ofString "pk" then u y else if y = Str.ofString "has_continuation" then u y else if y = Str.ofString "has_charset" then u y else if y = Str.ofString "m_mark" then u y else m₀ y := funext fun y => by
  by_cases e1 : y = Str.ofString "pv"
  · rw [if_pos e1]
  rw [if_neg e1]
  by_cases e2 : y = Str.ofString "pk"
  · rw [if_pos e2]
  rw [if_neg e2]
  by_cases e3 : y = Str.ofString "has_continuation"
  · rw [if_pos e3]
  rw [if_neg e3]
  by_cases e4 : y = Str.ofString "has_charset"
  · rw [if_pos e4]
  rw [if_neg e4]
  by_cases e5 : y = Str.ofString "m_mark"
  · rw [if_pos e5]
  rw [if_neg e5]
  exact h y (by rintro (e | e | e | e | e) <;> contradiction)
theorem pv_loop {L O C D : Addr} {o oc : Obj} {us : Array Value} {num : Nat} {tups : List (Addr × Obj)} {ps : List PairL} {oe : PySem.Expr} {pk pv pt pos : Pos} {x1 : Nat}
    (hh : A.handled = none) (F : Fr h₀ L s.heap m₀) (N : News h₀ L s.heap ([(O, o)] ++ ((C, oc) :: (D, listOf us num) :: tups))) (hL : env.locals = L) (off : OwnOff ((C, oc) :: (D, listOf us num) :: tups) [O]) (hT : TupsAre us tups ps) (hd : o.IsDictOf (PySem.strKind PG w) []) (hb : ∀ p ∈ ps, PairOk p) (hn : ps.length ≤ 500)
    (ho : ∀ Q', Q' (.ref D) s → wpAny (model PG w) A (eval oe env) Q' E s)
    (turn : ∀ (j : Nat) (x : List Nat) tk tx (o : Obj) (kvs : List (Str × Value)) (rows : List RowL) (u : Str → Option Value) h tk' own, j < 4 → x.length ≤ 100 → (S x).length ≤ 100 → 37 ∉ x → o.IsDictOf (PySem.strKind PG w) kvs → RowsAre kvs rows → rows.length ≤ 600 → OwnOff ((C, oc) :: own) [O] →
      Fr h₀ L h (fun y => if y = Str.ofString "pv" then some (.str (S x) tx) else if y = Str.ofString "pk" then some (.str (S (keyN j)) tk) else if y = Str.ofString "has_continuation" then u y else if y = Str.ofString "has_charset" then u y else if y = Str.ofString "m_mark" then u y else m₀ y) →
      News h₀ L h ([(O, o)] ++ ((C, oc) :: own)) →
      wpAny (model PG w) A (execs body env) (PVEnd h₀ L O m₀ ((C, oc) :: own) w (putR rows (keyN j) (some (unq x))) { s with heap := h, toks := tk' } Q) E { s with heap := h, toks := tk' })
    (done : ∀ (o : Obj) (kvs : List (Str × Value)) (u : Str → Option Value) h tk, o.IsDictOf (PySem.strKind PG w) kvs → RowsAre kvs (ps.foldl pvStep []) →
      Fr h₀ L h (fun y => if y = Str.ofString "pv" then u y else if y = Str.ofString "pk" then u y else if y = Str.ofString "has_continuation" then u y else if y = Str.ofString "has_charset" then u y else if y = Str.ofString "m_mark" then u y else m₀ y) →
      News h₀ L h ([(O, o)] ++ ((C, oc) :: (D, listOf us num) :: tups)) → Q .next { s with heap := h, toks := tk })
    (hxk : env.kindOf (Str.ofString "pk") = some .local) (hxv : env.kindOf (Str.ofString "pv") = some .local)
    (hp : (env.scope.kind == .class || (env.scope.kind == .module && env.locals != env.globals)) = false)
    (hs : ∀ x, foldedSetIterable oe env x = pure x)
    (hE : PassesOwn (model PG w) A env E) :
    wpAny (model PG w) A (exec (.For (.Tuple [.Name (Str.ofString "pk") pk, .Name (Str.ofString "pv") pv] x1 pt) oe body [] pos) env) Q E s := by
  subst hL
  refine For_turns (h₀ := h₀) F ?_ hs hE
  refine ho _ ?_
  have hD := N (D, listOf us num) (by simp)
  have hl : s.heap.IsList D us := ⟨_, hD.1, rfl, num, rfl⟩
  have hne : D ≠ s.heap.objs.size := Nat.ne_of_lt (Heap.lt_size hD.1)
  refine wpAny_pyIter_list hl ?_
  let J : Nat → (Str → Option Value) → List (Addr × Obj) → Prop := fun i m' nx => ∃ o kvs rows, nx = (O, o) :: (C, oc) :: (D, listOf us num) :: tups ∧ o.IsDictOf (PySem.strKind PG w) kvs ∧ RowsAre kvs rows ∧ rows = (ps.take i).foldl pvStep [] ∧ ∀ z, ¬ pvOut z → m' z = m₀ z
  have hsz : us.size = ps.length := hT.size
  have hIn : ∀ p ∈ [(O, o)] ++ ((C, oc) :: (D, listOf us num) :: tups), p.1 ≠ s.heap.objs.size := fun p hp => Nat.ne_of_lt (Heap.lt_size (N p hp).1)
  have hOI : O ≠ s.heap.objs.size := hIn (O, o) (by simp)
  have hDO : D ≠ O := off (D, listOf us num) (by simp) O (.head _)
  refine ⟨s.heap.objs.size, [s.heap.objs.size, D], [s.heap.objs.size], us.size, _, _, _, m₀, (O, o) :: (C, oc) :: (D, listOf us num) :: tups, J, rfl, KTurns.ofWalks (Walks.list hh s.heap.objs.size D hne us) fun i v s Q E st q => letGo_listiter st.1 q, ?_, ?_, ?_, ?_, F.push _, ?_, ?_, ?_, ?_⟩
  · intro hm
    simp only [List.mem_cons, List.not_mem_nil, or_false] at hm
    rcases hm with e | e
    · exact absurd F.ns.lt (e ▸ Nat.lt_irrefl _)
    · exact hD.2.1 e.symm
  · intro b hb
    rw [List.mem_singleton.mp hb]; exact next_is_new F
  · intro p hp hI
    exact hIn p (by simpa using hp) (List.mem_singleton.mp hI)
  · exact ⟨⟨_, Heap.get?_push_size _ rfl, rfl, rfl⟩, hl.at fun o e => Heap.get?_push_of_some _ e⟩
  · exact fun p hp => ⟨Heap.get?_push_of_some _ (N p (by simpa using hp)).1, (N p (by simpa using hp)).2⟩
  · exact ⟨o, [], [], rfl, hd, .nil, rfl, fun _ _ => rfl⟩
  · rintro i v m₁ news₁ h₁ tk₁ own hin hP ⟨o₁, kvs, rows, rfl, hd₁, hR₁, hrows, hm₁⟩ hnw₁ hown hget hall hst₁ F₁ N₁
    obtain ⟨a, k, x, tk, tx, rfl, hmem, hpi⟩ := hT.at (show us[i]? = some v from hP)
    have hat := N₁ (a, _) (List.mem_append_right _ (.tail _ (.tail _ (.tail _ hmem))))
    have hok := hb _ (List.mem_of_getElem? hpi)
    obtain ⟨⟨j, hj, hjk⟩, hx1, hx2⟩ := hok
    simp only at hjk hx1 hx2
    subst hjk
    have hTup : h₁.IsTuple a #[.str (S (keyN j)) tk, .str (S x) tx] := ⟨_, hat.1, rfl, _, rfl⟩
    refine wpAny_assign_Tuple hh hTup rfl rfl fun h₃ hx₃ => ?_
    replace hx₃ : Heap.ExtBut h₁.objs.size h₁ h₃ := hx₃
    have up₃ : ∀ b o, h₁.get? b = some o → h₃.get? b = some o := fun b o e => hx₃ b o (Nat.ne_of_lt (Heap.lt_size e)) e
    have F₃ : Fr h₀ env.locals h₃ m₁ := ⟨F₁.ns.at fun o x => up₃ _ o x, fun b o e => up₃ b o (F₁.keep b o e), F₁.above⟩
    have N₃ : News h₀ env.locals h₃ (own ++ ((O, o₁) :: (C, oc) :: (D, listOf us num) :: tups)) := fun p hp => ⟨up₃ _ _ (N₁ p hp).1, (N₁ p hp).2⟩
    show wpAny _ _ (do holding [Value.str (S x) tx] (assign (.Name (Str.ofString "pk") pk) env (.str (S (keyN j)) tk)); do holding [] (assign (.Name (Str.ofString "pv") pv) env (.str (S x) tx)); pure ()) _ _ _
    refine wpAny_bind (wpAny_holding (wpAny_assign_Name (wpAny_storeName_local hxk F₃.ns (fun h₄ hn₄ hs₄ => ?_) hp)))
    replace hs₄ : Heap.SameBut env.locals h₃ h₄ := hs₄
    have F₄ := F₃.set hn₄ hs₄
    refine wpAny_bind (wpAny_holding (wpAny_assign_Name (wpAny_storeName_local hxv F₄.ns (fun h₅ hn₅ hs₅ => wpAny_pure ?_) hp)))
    replace hs₅ : Heap.SameBut env.locals h₄ h₅ := hs₅
    have F₅ : Fr h₀ env.locals h₅ (fun y => if y = Str.ofString "pv" then some (.str (S x) tx) else if y = Str.ofString "pk" then some (.str (S (keyN j)) tk) else m₁ y) := F₄.set hn₅ hs₅
    have N₅ : News h₀ env.locals h₅ (own ++ ((O, o₁) :: (C, oc) :: (D, listOf us num) :: tups)) := (N₃.set hs₄).set hs₅
    rw [pv_fr hm₁] at F₅
    have N₆ : News h₀ env.locals h₅ ([(O, o₁)] ++ ((C, oc) :: ((D, listOf us num) :: tups ++ own))) := fun p hp => N₅ p (by simp at hp ⊢; rcases hp with h | h | h | h | h <;> simp [h])
    have hoff : OwnOff ((C, oc) :: ((D, listOf us num) :: tups ++ own)) [O] := by
      intro p hp b hb e
      rw [List.mem_singleton.mp hb] at e
      have hp' : p ∈ (C, oc) :: (D, listOf us num) :: tups ∨ p ∈ own := by simp at hp ⊢; rcases hp with h | h | h | h <;> simp [h]
      rcases hp' with hp' | hp'
      · exact off p hp' O (.head _) e
      · have h1 := hown p hp'
        simp only [List.mem_cons, List.not_mem_nil, or_false] at h1
        rcases h1 with h1 | h1
        · exact hOI (by rw [← e, h1])
        · exact hDO (by rw [← h1, e])
    have hr : rows.length ≤ 600 := by
      have := pvFold_len (ps.take i) []
      rw [hrows]
      simp only [List.length_take, List.length_nil] at this ⊢
      omega
    refine wpAny_mono (turn j x tk tx o₁ kvs rows m₁ h₅ _ _ hj hx1 (by rw [S_len]; exact hx1) hx2 hd₁ hR₁ hr hoff F₅ N₆) (fun fl s₂ hq' => ?_) fun _ _ e => e
    have fin : ∀ s₁ s₂, PVFin h₀ env.locals O m₀ ((C, oc) :: ((D, listOf us num) :: tups ++ own)) w (putR rows (keyN j) (some (unq x))) s₁ s₂ → LoopStepU h₀ env.locals [s.heap.objs.size] own (J (i + 1)) s₁ .next s₂ := by
      rintro s₁ s₂ ⟨h', tk', m', news', o', kvs', rfl, F', N', g1, g2, g3, g4, g5⟩
      refine ⟨rfl, h', tk', m', (O, o') :: (C, oc) :: (D, listOf us num) :: tups, rfl, F', ?_, ?_, o', kvs', _, rfl, g3, g4, ?_, g5⟩
      · intro p hp
        rcases List.mem_append.mp hp with hp | hp
        · exact N' p (g2 p (by simp [hp]))
        · rcases List.mem_cons.mp hp with hp | hp
          · rw [hp]; exact N' _ g1
          · exact N' p (g2 p (by simp at hp ⊢; rcases hp with h | h | h <;> simp [h]))
      · intro p hp hI
        rw [List.mem_singleton] at hI
        rcases List.mem_cons.mp hp with hp | hp
        · exact hOI (by rw [← hI, hp])
        · exact hIn p (List.mem_append_right _ hp) hI
      · rw [List.take_add_one, hpi, List.foldl_append, ← hrows]; rfl
    cases fl with
    | ret v => exact .ret hq'
    | brk => exact .brk hq'
    | next => exact .next (fin _ _ hq')
    | cont => exact .cont (fin _ _ hq')
  · rintro h' tk m' news' F' N' hnw' ⟨o₁, kvs, rows, rfl, hd₁, hR₁, hrows, hm'⟩
    rw [hsz, List.take_length] at hrows
    subst hrows
    rw [pv_frd hm'] at F'
    exact done o₁ kvs m' h' tk hd₁ hR₁ F' fun p hp => N' p (by simpa using hp)
end
theorem off_pv {h₀ h : Heap} {L O C D : Addr} {o oc : Obj} {us : Array Value} {num : Nat} {tups : List (Addr × Obj)} {ps : List PairL} {w : World} {R : Prop} (N : News h₀ L h ((C, oc) :: (O, o) :: ([(D, listOf us num)] ++ tups))) (hd : o.IsDictOf (PySem.strKind PG w) []) (hT : TupsAre us tups ps) (hl : O < C ∧ R) :
    News h₀ L h ([(O, o)] ++ ((C, oc) :: (D, listOf us num) :: tups)) ∧ OwnOff ((C, oc) :: (D, listOf us num) :: tups) [O] := by
  have hO := (N (O, o) (by simp)).1
  have hcls : o.cls = .type "dict" := by
    obtain ⟨_, _, hc, _⟩ := hd; exact hc.1
  refine ⟨fun p hp => N p (by simp at hp ⊢; rcases hp with h | h | h | h <;> simp [h]), ?_⟩
  intro p hp b hb e
  rw [List.mem_singleton.mp hb] at e
  rcases List.mem_cons.mp hp with hp | hp
  · rw [hp] at e
    exact Nat.ne_of_gt hl.1 e
  · have hp2 := (N p (by rcases List.mem_cons.mp hp with h | h <;> simp [h])).1
    rw [e, hO] at hp2
    have hc := congrArg Obj.cls (Option.some.inj hp2)
    rw [hcls] at hc
    rcases List.mem_cons.mp hp with hp | hp
    · rw [hp] at hc
      exact absurd hc (by show ¬ (Value.type "dict" = Value.type "list"); decide)
    · obtain ⟨i, hi⟩ := List.getElem?_of_mem hp
      obtain ⟨k, x, tk, tx, e2, _⟩ := hT.2.at hi
      rw [e2] at hc
      exact absurd hc (by show ¬ (Value.type "dict" = Value.type "tuple"); decide)
theorem unsl_free {c : Nat} : ∀ {l : List Nat}, c ∉ l → c ∉ unsl l
  | [], _ => by simp [unsl]
  | [d], h => by simpa [unsl] using h
  | a :: d :: r, h => by
    rw [unsl]
    simp only [List.mem_cons, not_or] at h
    split
    · have := unsl_free (c := c) (l := r) h.2.2
      simp [h.2.1, this]
    · have := unsl_free (c := c) (l := d :: r) (by simp [h.2.1, h.2.2])
      simp only [List.mem_cons, not_or]
      exact ⟨h.1, this⟩
theorem unq_free {c : Nat} {l : List Nat} (h : c ∉ l) : c ∉ unq l := by
  unfold unq
  split
  · exact unsl_free fun hm => h (List.mem_of_mem_drop (List.mem_of_mem_take hm))
  · exact h
section
variable {prog : Program} {w : World} {A : Around} {E : Value → Shared → Prop} {s : Shared} {h₀ : Heap} {L O C : Addr} {m : Str → Option Value} {o oc : Obj} {own : List (Addr × Obj)} {t u : Tok} {Q : Value → Shared → Prop} {P : Addr}
theorem mark_W {k : Nat} (H : PatAt h₀ P cM 2) (hk : k < 4) (F : Fr h₀ L s.heap m) (N : News h₀ L s.heap ([(O, o)] ++ ((C, oc) :: own))) (off : OwnOff ((C, oc) :: own) [O])
    (yes : ∀ M T h' li, Fr h₀ L h' m → News h₀ L h' ([(O, o)] ++ ((C, oc) :: (M, matchObj (S (keyN k)) t P 0 4 li T) :: (T, spanObj [4, 4, -1, -1, -1, -1]) :: own)) → OwnOff ((C, oc) :: (M, matchObj (S (keyN k)) t P 0 4 li T) :: (T, spanObj [4, 4, -1, -1, -1, -1]) :: own) [O] → Q (.ref M) { s with heap := h' }) :
    wpAny (model prog w) A (call (.builtin "re.Pattern.search") [.ref P, .str (S (keyN k)) t]) Q E s := by
  refine call_mark (H.keeps F.keep) hk fun li => ?_
  obtain ⟨F', N', off'⟩ := two_new (o1 := spanObj [4, 4, -1, -1, -1, -1]) (o2 := matchObj (S (keyN k)) t P 0 4 li s.heap.objs.size) F N off rfl rfl
  refine yes (s.heap.objs.size + 1) s.heap.objs.size _ li F' (fun p hp => N' p ?_) (fun p hp => off' p ?_)
  · simp at hp ⊢; rcases hp with h | h | h | h | h <;> simp [h]
  · simp at hp ⊢; rcases hp with h | h | h | h <;> simp [h]
theorem end_L {D T : Addr} {l : List Nat} {pos lim : Nat} {li x y : Int} {r : List Int} (hD : s.heap.get? D = some (matchObj (S l) t P pos lim li T)) (hT : s.heap.get? T = some (spanObj (x :: y :: r)))
    (h : Q (.int y s.toks) { s with toks := s.toks + 1 }) : wpAny (model prog w) A (call (.builtin "re.Match.end") [.ref D]) Q E s := call_end hD hT rfl h
theorem start_L {D T : Addr} {l : List Nat} {pos lim : Nat} {li x y : Int} {r : List Int} (hD : s.heap.get? D = some (matchObj (S l) t P pos lim li T)) (hT : s.heap.get? T = some (spanObj (x :: y :: r)))
    (h : Q (.int x s.toks) { s with toks := s.toks + 1 }) : wpAny (model prog w) A (call (.builtin "re.Match.start") [.ref D]) Q E s := call_start hD hT rfl h
theorem occ_none {x : List Nat} {y : List Nat} {c : Nat} (hc : c ∈ y) (h : c ∉ x) (lim : Nat) : occurrences (S x) (S y) 0 (S x).length lim = [] := by
  cases e : occurrences (S x) (S y) 0 (S x).length lim with
  | nil => rfl
  | cons i r =>
    have h1 := (StrLaws.occ_spec (S x) (S y) 0 (S x).length lim i (by rw [e]; exact .head _)).2
    rw [subAt_S] at h1
    have h2 : (x.drop i).take y.length = y := by simpa using h1
    exact absurd (List.mem_of_mem_drop (List.mem_of_mem_take (h2 ▸ hc))) h
theorem repl_none {x y z : List Nat} {c : Nat} {t u v : Tok} {ys zs : Str} (hy : ys = S y) (hc : c ∈ y) (h : c ∉ x) (hq : Q (.str (S x) t) s) : wpAny (model prog w) A (call (.builtin "str.replace") [.str (S x) t, .str ys u, .str zs v]) Q E s := by
  subst hy
  refine wpAny_call_entry F.slot_str_replace (typeIs_str _ _ _) F.entry_str_replace ?_ (F.args_str_replace_3 _ _ _)
  have hn := occ_none (x := x) hc h ((S x).length + 1)
  show wpAny _ _ (if ((occurrences (S x) (S y) 0 (S x).length ((S x).length + 1)).isEmpty || _) = true then (do rule "str.replace.nothing"; ret (← strUnchanged (.str (S x) t) (S x))) else _) _ _ _
  rw [hn]
  exact wpAny_bind (wpAny_rule (wpAny_bind (m := strUnchanged _ _) (wpAny_pure (wpAny_pure ⟨_, rfl, hq⟩))))
end
end Mine
end
section
open PySem PySem.W PyProof.Rows PySem.Calls PySem.Spec
namespace Mine
section
variable {prog : Program} {w : World} {A : Around} {E : Value → Shared → Prop} {s : Shared} {env : Env} {h₀ : Heap} {L : Addr} {m : Str → Option Value} {news : List (Addr × Obj)}
/-- a dict comprehension over an empty table's items -/
theorem dictcomp_none {kx vx target iter : PySem.Expr} {scope : Scope} {cl : List (Str × Addr)} {pos : Pos} {Q : Value → Shared → Prop}
    (hh : A.handled = none) (hclos : closureFor scope env = pure cl) (hcell : ∀ y ∈ scope.names, y.2 ≠ .cell) (hkind : scope.kind = .function)
    (hnames : ∀ y ∈ scope.names, y.2 = .local → scope.names.lookup y.1 = some .local)
    (h : wpAny (model prog w) A (eval iter env) (fun xv s₁ => ∃ vw d, xv = .ref vw ∧ s₁.heap.IsItemsView vw d ∧ s₁.heap.DictOf (PySem.strKind prog w) d [] ∧ Fr h₀ L s₁.heap m ∧ News h₀ L s₁.heap news ∧
      (∀ D h' tk, Fr h₀ L h' m → News h₀ L h' news → h'.DictOf (PySem.strKind prog w) D [] → s₁.heap.get? D = none → (D == sysModules) = false → Q (.ref D) { s₁ with heap := h', toks := tk })) E s)
    (hbig : h₀.NoLimit)
    (hs : ∀ x, foldedSetIterable iter env x = pure x) :
    wpAny (model prog w) A (eval (.DictComp kx vx [⟨target, iter, [], 0⟩] scope pos) env) Q E s := by
  rw [arm_eval_DictComp]
  refine wpAny_comprehension_free (use := none) rfl hs hclos hkind hnames (wpAny_mono h (fun xv s₁ h₁ => ?_) fun _ _ e => e)
  obtain ⟨vw, d, rfl, hv, hd, F, N, hQ⟩ := h₁
  obtain ⟨ep, hat⟩ := hd.dictAt
  refine wpAny_pyIter_items (knd := PySem.strKind prog w) hv hat ?_
  refine wpAny_newObj_type (wpAny_newFunctionEnv hcell (by intro y hy; simp at hy) (fun h₁ hns₁ hsb₁ => ?_) hkind)
  dsimp only at hns₁ hsb₁ ⊢
  have F1 := F.push { cls := .type "dict_itemiterator", data := .fields #[.none, .bool false, .ref d, .int 0 0, .int (([] : List (Str × Value)).length : Nat) 0, .int ep 0, .none, .none] }
  have hit : IsItemIter (s₁.heap.push { cls := .type "dict_itemiterator", data := .fields #[.none, .bool false, .ref d, .int 0 0, .int (([] : List (Str × Value)).length : Nat) 0, .int ep 0, .none, .none] }) s₁.heap.objs.size d 0 ([] : List (Str × Value)).length ep .none .none := Heap.get?_push_size _ rfl
  have N1 : News h₀ L (s₁.heap.push { cls := .type "dict_itemiterator", data := .fields #[.none, .bool false, .ref d, .int 0 0, .int (([] : List (Str × Value)).length : Nat) 0, .int ep 0, .none, .none] }) news := fun p hp => ⟨Heap.get?_push_of_some _ (N p hp).1, (N p hp).2⟩
  have hat1 := hat.push { cls := .type "dict_itemiterator", data := .fields #[.none, .bool false, .ref d, .int 0 0, .int (([] : List (Str × Value)).length : Nat) 0, .int ep 0, .none, .none] }
  generalize hH1 : s₁.heap.push { cls := .type "dict_itemiterator", data := .fields #[.none, .bool false, .ref d, .int 0 0, .int (([] : List (Str × Value)).length : Nat) 0, .int ep 0, .none, .none] } = H1 at hns₁ hsb₁ F1 hit N1 hat1 ⊢
  have hnew : (H1.push { cls := .type "dict", dict := none, data := .dict #[] }).DictOf (PySem.strKind prog w) H1.objs.size [] := Heap.DictOf.new H1
  have old1 : ∀ b o, H1.get? b = some o → (H1.push { cls := .type "dict", dict := none, data := .dict #[] }).get? b = some o := fun b o e => Heap.get?_push_of_some _ e
  have hsz2 : (H1.push { cls := .type "dict", dict := none, data := .dict #[] }).objs.size = H1.objs.size + 1 := Heap.size_push ..
  generalize hH2 : H1.push { cls := .type "dict", dict := none, data := .dict #[] } = H2 at hns₁ hsb₁ hnew old1 hsz2 ⊢
  have hDC : H1.objs.size ≠ H2.objs.size := by rw [hsz2]; exact Nat.ne_of_lt (Nat.lt_succ_self _)
  have old : ∀ b o, H1.get? b = some o → h₁.get? b = some o := fun b o e => hsb₁.extBut b o (Nat.ne_of_lt (by rw [hsz2]; exact Nat.lt_succ_of_lt (Heap.lt_size e))) (Heap.get?_push_of_some _ (old1 b o e))
  have hacc : h₁.DictOf (PySem.strKind prog w) H1.objs.size [] := hnew.at fun o e => hsb₁.extBut _ _ hDC (Heap.get?_push_of_some _ e)
  have hI : s₁.heap.objs.size < H1.objs.size := by rw [← hH1, Heap.size_push]; exact Nat.lt_succ_self _
  have loop : ∀ s₃ : Shared, s₃ = { s₁ with heap := h₁, toks := s₁.toks + ([] : List (Str × Value)).length } →
      codeAny (model prog w) A (.compLoop (.DictComp kx vx [⟨target, iter, [], 0⟩] scope pos) 0 (.ref s₁.heap.objs.size) (.ref H1.objs.size) (compEnvC scope cl H2.objs.size env))
        (compPost (model prog w) A E none Q (.ref H1.objs.size) H2.objs.size) s₃ := by
    rintro s₃ rfl
    refine codeAny_loop rfl (fun n s' => s' = { s₁ with heap := h₁, toks := s₁.toks + ([] : List (Str × Value)).length }) (fun n s' hs' => ?_) 0 rfl
    subst hs'
    show wpAny _ A ((compTurn (.DictComp kx vx [⟨target, iter, [], 0⟩] scope pos) 0 (.ref s₁.heap.objs.size) (.ref H1.objs.size) (compEnvC scope cl H2.objs.size env)).onRaise (fun x => do noteFrame x _; theTreesLotGoes x)) _ _ _
    refine wpAny_noted ?_
    rw [compTurn_dict]
    refine wpAny_bind (wpAny_standAt (wpAny_bind (wpAny_pyNext_items_end (knd := PySem.strKind prog w) (kvs := []) hh (old _ _ hit) (hat1.keep old) rfl fun h' hx => wpAny_pure ?_)))
    have keep : ∀ b o, b ≠ s₁.heap.objs.size → h₁.get? b = some o → h'.get? b = some o := fun b o hb e => hx b o hb e
    refine ⟨_, hns₁.extBut hx (by rw [hsz2]; exact Nat.ne_of_gt (Nat.lt_succ_of_lt hI)), fun h'' hs'' => ?_⟩
    have keep2 : ∀ b o, s₁.heap.get? b = some o → h''.get? b = some o := fun b o e => by
      have hb := Heap.lt_size e
      refine hs''.extBut b o (Nat.ne_of_lt (by rw [hsz2]; exact Nat.lt_succ_of_lt (Nat.lt_trans hb hI))) (keep b o (Nat.ne_of_lt hb) (old b o ?_))
      rw [← hH1]; exact Heap.get?_push_of_some _ e
    refine hQ H1.objs.size h'' _ (F.keeps keep2) (fun p hp => ⟨keep2 _ _ (N p hp).1, (N p hp).2⟩) ?_ ?_ ?_
    · exact (hacc.at fun o e => keep _ o (Nat.ne_of_gt hI) e).at fun o e => hs''.extBut _ o hDC e
    · cases e : s₁.heap.get? H1.objs.size with
      | none => rfl
      | some o => exact absurd (Heap.lt_size e) (Nat.not_lt.mpr (Nat.le_of_lt hI))
    · exact F1.notModules (modules_low hbig)
  exact codeAny_compStart_dict (loop _ rfl) (kcp_self (old _ _ hit) (loop _ rfl))
theorem dc_W {kx vx target o : PySem.Expr} {scope : Scope} {cl : List (Str × Addr)} {apos cpos pos : Pos} {C : Addr} {oc : Obj} {Q : Value → Shared → Prop}
    (hh : A.handled = none) (F : Fr h₀ L s.heap m) (N : News h₀ L s.heap news) (hm : (C, oc) ∈ news) (hc : oc.IsDictOf (PySem.strKind prog w) []) (lo : (C == sysModules) = false) (hbig : h₀.NoLimit)
    (ho : ∀ Q', Q' (.ref C) s → wpAny (model prog w) A (eval o env) Q' E s)
    (hQ : ∀ D h' tk, Fr h₀ L h' m → News h₀ L h' news → h'.DictOf (PySem.strKind prog w) D [] → s.heap.get? D = none → (D == sysModules) = false → Q (.ref D) { s with heap := h', toks := tk })
    (hclos : closureFor scope env = pure cl) (hcell : ∀ y ∈ scope.names, y.2 ≠ .cell) (hkind : scope.kind = .function)
    (hnames : ∀ y ∈ scope.names, y.2 = .local → scope.names.lookup y.1 = some .local)
    (hbase : attributeBase o "items" env (eval o env) = eval o env) (hline : (apos.endLine == cpos.line) = true)
    (hs : ∀ x, foldedSetIterable (.Call (.Attribute o "items" apos) [] [] cpos) env x = pure x) :
    wpAny (model prog w) A (eval (.DictComp kx vx [⟨target, .Call (.Attribute o "items" apos) [] [] cpos, [], 0⟩] scope pos) env) Q E s := by
  refine dictcomp_none (h₀ := h₀) (L := L) (m := m) (news := news) hh hclos hcell hkind hnames ?_ hbig hs
  have hD := kda_dict (knd := PySem.strKind prog w) N hm hc
  refine wpAny_Call_items (knd := PySem.strKind prog w) lo hD hbase hline ho ?_
  refine ⟨_, C, rfl, ⟨_, Heap.get?_push_size _ rfl, rfl, rfl⟩, hD.keep fun b o e => Heap.get?_push_of_some _ e, F.push _, fun p hp => ⟨Heap.get?_push_of_some _ (N p hp).1, (N p hp).2⟩, fun D h' tk F' N' hD' hn lo' => hQ D h' tk F' N' hD' ?_ lo'⟩
  cases e : s.heap.get? D with
  | none => rfl
  | some o => rw [Heap.get?_push_of_some _ e] at hn; cases hn
theorem update_W {O C D : Addr} {o oc : Obj} {kvs : List (Str × Value)} {Q : Value → Shared → Prop} (F : Fr h₀ L s.heap m) (N : News h₀ L s.heap [(O, o), (C, oc)]) (hd : o.IsDictOf (PySem.strKind prog w) kvs) (hsz : kvs.length ≤ 600) (hD2 : s.heap.DictOf (PySem.strKind prog w) D []) (hne : D ≠ O) (lo : (D == sysModules) = false)
    (h : ∀ h' o', Fr h₀ L h' m → News h₀ L h' [(O, o')] → o'.IsDictOf (PySem.strKind prog w) kvs → Q .none { s with heap := h' }) : wpAny (model prog w) A (call (.builtin "dict.update") [.ref O, .ref D]) Q E s := by
  have hm := N (O, o) (.head _)
  have hD : s.heap.DictOf (PySem.strKind prog w) O kvs := Heap.dictOf_iff.mpr ⟨o, hm.1, hd⟩
  refine call_meetsIn PySem.F.slot_dict_update hD.typeIs PySem.F.entry_dict_update (PySem.F.args_dict_update_2 _ _) (meets_dict_update (PySem.strKind prog w) O D (Ne.symm hne) lo)
    ⟨kvs, [], hD, hD2, Nat.le_trans hsz (by decide), fun h' hmm _ hs => ?_⟩
  obtain ⟨o', ho', hd'⟩ := Heap.dictOf_iff.mp hmm
  exact h h' o' (F.change hs hm.2.1 hm.2.2) (fun p hp => by rw [List.mem_singleton.mp hp]; exact ⟨ho', hm.2⟩) hd'
theorem getM_upd {M : Model} {O : Addr} {kvs : List (Str × Value)} {pl : Sem Bool} {Q : Value × List Value → Shared → Prop} (hD : s.heap.DictOf (PySem.strKind prog w) O kvs) (h : Q (.builtin "dict.update", [.ref O]) s) : wpAny M A (getMethod (.ref O) (Str.ofString "update") pl) Q E s :=
  getMethod_builtin hD.typeIs F.plainAttrs_dict F.slot_dict_update F.type_dict_update (fun a e => by cases e; exact hD.mapOf.noDict _ rfl) h
theorem ne_new {O D : Addr} {o : Obj} {r : List (Addr × Obj)} {h : Heap} (hn : h.get? D = none) (N : News h₀ L h ((O, o) :: r)) : D ≠ O := by
  rintro rfl
  have := (N _ (.head _)).1
  rw [hn] at this; cases this
end
end Mine
end
section
open PySem PySem.W PyProof.Rows PySem.Calls PySem.Spec
namespace Mine
open LCg LCt RE
section
local macro_rules | `(tactic| walk_at "my enterP") => `(tactic| k_dflt (refine' enter_plain ?k1 ?k2 ?k3 ?k5 ?kA ?kF ?kK ?k6 ?k7 ?k8 ?k9 ?kB ?kL ?_ ?c2 ?c3 ?c4 ?c5; (case kA => exact rfl); (case kF => exact rfl); (case kK => assumption); (case k1 => k_asm); (case k2 => k_asm); (case k3 => k_asm); (case k5 => k_asm); (case k6 => k_is); (case k7 => k_is); (case k8 => ktr_room); (case k9 => exact BindsTo.of_eq rfl); (case c5 => decide); (case kB => exact locs rfl); (case kL => exact ⟨_, _, rfl⟩); (case c2 => exact rfl); (case c3 => exact rfl); (case c4 => exact rfl); k_whole; intro g' L' h' tk' htk' hst' FG' F' N' B' X' T'; (try dsimp only); (try k_lift B'); (try k_fold)))
local macro_rules | `(tactic| walk_at "execs cons") => `(tactic| (k_here; (with_reducible refine execs_cons_tk (by first | assumption | (dsimp only; omega)) ?_); try dsimp only))
local macro_rules | `(tactic| walk_at "execs nil") => `(tactic| (k_here; (with_reducible refine wpAny_execs_nil ?_); try dsimp only))
local macro_rules | `(tactic| walk_at "my steps") => `(tactic| repeat' (first | (k_unfold; (try dsimp only)) | walk1 | (dsimp only; walk1) | (leave1; (try dsimp only)) | fail "no step"))
local macro_rules | `(tactic| walk_at "LeaveK") => `(tactic| (k_here; k_dflt (refine' leaveK_ ?k1 ?k2 ?_; (case k1 => k_asm); (case k2 => k_asm)); intro kF kN; (try dsimp only)))

theorem fillK9 : PySem.Challenge.rw_vm0023_01 = PySem.Challenge.rw_vm0023_01 ∧ hd.heap_39 = hd.heap_39 := by
  k_fill
  exact ⟨rfl, rfl⟩
theorem semi_c : Str.ofString ";" = ⟨#[59]⟩ := by decide +kernel
theorem part_call0 {prog : Program} {w : World} {A : Around} {E : Value → Shared → Prop} {s : Shared} {h₀ : Heap} {L : Addr} {news : List (Addr × Obj)} {m : Str → Option Value} {Q : Value → Shared → Prop} {l : List Nat} {y : Str} {c : Nat} {t u : Tok} (hy : y = ⟨#[c]⟩) (F : Fr h₀ L s.heap m) (N : News h₀ L s.heap news) (hl : l.length ≤ 500)
    (h : ∀ T ta tb tc h' k, Fr h₀ L h' m → News h₀ L h' ((T, { cls := .type "tuple", data := .seq [.str (S (bef c l)) ta, .str (S (sepOf c l)) tb, .str (S (aft c l)) tc].toArray }) :: news) → (bef c l).length ≤ 500 → (S (bef c l)).length ≤ 500 → (aft c l).length ≤ 500 → (S (aft c l)).length ≤ 500 → (S (sepOf c l)).length ≤ 1 → Q (.ref T) { s with heap := h', toks := k }) :
    wpAny (model prog w) A (call (.builtin "str.partition") [.str (S l) t, .str y u]) Q E s := by
  subst hy
  have e := part_S c l
  have h1 := Nat.le_trans (bef_len c l) hl
  have h2 := Nat.le_trans (aft_len c l) hl
  refine KXpa.partition F N rfl (by rw [e]) (by rw [e]) (by rw [e]) (by rw [S_len]; exact Nat.le_trans hl (by decide)) fun T ta tb tc h' k F' N' _ => h T ta tb tc h' k F' N' h1 (by rw [S_len]; exact h1) h2 (by rw [S_len]; exact h2) (by rw [S_len]; exact sepOf_len c l)
local macro_rules | `(tactic| walk_at "call builtin:str.partition") => `(tactic| (k_here; (try dsimp only [List.cons_append, List.nil_append]); (refine part_call0 semi_c (by assumption) (by assumption) (by assumption) ?_); intro T6' ta6' tb6' tc6' h6' k6' F6' N6' hb6' hB6' ha6' hA6' hs6'))
local macro_rules | `(tactic| walk_at "call builtin:str.strip") => `(tactic| (k_here; (try dsimp only [List.cons_append, List.nil_append]); refine strip_callB (by assumption) ?_; intro t9' k9' hl9' hL9'))

theorem sub_head {h₀ : Heap} {L : Addr} {h : Heap} {p : Addr × Obj} {r : List (Addr × Obj)} (N : News h₀ L h (p :: r)) : News h₀ L h [p] := fun q hq => N q (by rw [List.mem_singleton.mp hq]; exact .head _)
local macro_rules | `(tactic| walk_at "exec While Compare") => `(tactic| (k_here; k_dflt (refine' out_loop ?F ?N ?k1 rfl ?hcap ?tn ?dn ?hE; (case F => k_asm); (case N => exact sub_head (by assumption)); (case k1 => with_unfolding_all rfl); (case hcap => assumption); (case hE => passes_own)); (case' tn => intro n9' p9' tp9' us9' num9' tups9' ps9' u9' h9' tk9' hps9' hpl9' hT9' hsz9' hoff9' F9' N9'); (case' dn => intro us9' num9' tups9' u9' h9' tk9' hT9' hsz9' hoff9' F9' N9')))
theorem mm0 {p q : Addr × Obj} {r : List (Addr × Obj)} : p ∈ [q] ++ (p :: r) := by simp
theorem mm1 {a0 p q : Addr × Obj} {r : List (Addr × Obj)} : p ∈ [q] ++ (a0 :: p :: r) := by simp
theorem mm2 {a0 a1 p q : Addr × Obj} {r : List (Addr × Obj)} : p ∈ [q] ++ (a0 :: a1 :: p :: r) := by simp
theorem mm3 {a0 a1 a2 p q : Addr × Obj} {r : List (Addr × Obj)} : p ∈ [q] ++ (a0 :: a1 :: a2 :: p :: r) := by simp
theorem mm4 {a0 a1 a2 a3 p q : Addr × Obj} {r : List (Addr × Obj)} : p ∈ [q] ++ (a0 :: a1 :: a2 :: a3 :: p :: r) := by simp
theorem mm5 {a0 a1 a2 a3 a4 p q : Addr × Obj} {r : List (Addr × Obj)} : p ∈ [q] ++ (a0 :: a1 :: a2 :: a3 :: a4 :: p :: r) := by simp
theorem mm6 {a0 a1 a2 a3 a4 a5 p q : Addr × Obj} {r : List (Addr × Obj)} : p ∈ [q] ++ (a0 :: a1 :: a2 :: a3 :: a4 :: a5 :: p :: r) := by simp
theorem mm7 {a0 a1 a2 a3 a4 a5 a6 p q : Addr × Obj} {r : List (Addr × Obj)} : p ∈ [q] ++ (a0 :: a1 :: a2 :: a3 :: a4 :: a5 :: a6 :: p :: r) := by simp
theorem mm8 {a0 a1 a2 a3 a4 a5 a6 a7 p q : Addr × Obj} {r : List (Addr × Obj)} : p ∈ [q] ++ (a0 :: a1 :: a2 :: a3 :: a4 :: a5 :: a6 :: a7 :: p :: r) := by simp
theorem mm9 {a0 a1 a2 a3 a4 a5 a6 a7 a8 p q : Addr × Obj} {r : List (Addr × Obj)} : p ∈ [q] ++ (a0 :: a1 :: a2 :: a3 :: a4 :: a5 :: a6 :: a7 :: a8 :: p :: r) := by simp
theorem end_W {prog : Program} {w : World} {A : Around} {E : Value → Shared → Prop} {s : Shared} {P D T : Addr} {l : List Nat} {t : Tok} {Q : Value → Shared → Prop} {pos lim : Nat} {li x : Int} {b : Nat} {r : List Int} (hD : s.heap.get? D = some (matchObj (S l) t P pos lim li T)) (hT : s.heap.get? T = some (spanObj (x :: (b : Int) :: r)))
    (h : Q (.int (b : Int) s.toks) { s with toks := s.toks + 1 }) : wpAny (model prog w) A (call (.builtin "re.Match.end") [.ref D]) Q E s := call_end hD hT rfl h
theorem tups_as {us : Array Value} {tups : List (Addr × Obj)} {ps all : List PairL} (h : TupsAre us tups ps) (e : ps = all) : TupsAre us tups all := e ▸ h
theorem mem_hd {p : Addr × Obj} {own : List (Addr × Obj)} : p ∈ [p] ++ own := List.mem_append_left _ (List.mem_singleton.mpr rfl)
local macro_rules | `(tactic| walk_at "OutFin") => `(tactic| (k_here; k_dflt (refine' ⟨_, _, _, _, _, _, _, rfl, by assumption, by assumption, mem_hd, ?o, ?f, ?t, ?e4⟩; (case e4 => (intro z hz; simp only [outN, not_or] at hz; obtain ⟨h1, h2, h3, h4, h5, h6⟩ := hz; simp only [h1, h2, h3, h4, h5, h6, if_false])); (case t => exact tups_as (by assumption) (pr_end (by assumption) (by assumption))); (case o => (intro p hp; simp only [List.mem_append, List.mem_cons, hp, or_true])); (case f => assumption))))
theorem getM_keyW {prog : Program} {w w' : World} {A : Around} {E : Value → Shared → Prop} {s : Shared} {pl : Sem Bool} {g : Heap} {L : Addr} {m : Str → Option Value} {Q : Value × List Value → Shared → Prop} (F : Fr g L s.heap m) (X : (hd.heap_39 w'.params).In g) (h : Q (.builtin "re.Pattern.match", [.ref 78]) s) : wpAny (model prog w) A (getMethod (.ref 78) (Str.ofString "match") pl) Q E s :=
  getM_pmatch ((patK X).keeps F.keep) h
theorem getM_tokW {prog : Program} {w w' : World} {A : Around} {E : Value → Shared → Prop} {s : Shared} {pl : Sem Bool} {g : Heap} {L : Addr} {m : Str → Option Value} {Q : Value × List Value → Shared → Prop} (F : Fr g L s.heap m) (X : (hd.heap_39 w'.params).In g) (h : Q (.builtin "re.Pattern.match", [.ref 88]) s) : wpAny (model prog w) A (getMethod (.ref 88) (Str.ofString "match") pl) Q E s :=
  getM_pmatch ((patT X).keeps F.keep) h
theorem getM_delW {prog : Program} {w w' : World} {A : Around} {E : Value → Shared → Prop} {s : Shared} {pl : Sem Bool} {g : Heap} {L : Addr} {m : Str → Option Value} {Q : Value × List Value → Shared → Prop} (F : Fr g L s.heap m) (X : (hd.heap_39 w'.params).In g) (h : Q (.builtin "re.Pattern.search", [.ref 93]) s) : wpAny (model prog w) A (getMethod (.ref 93) (Str.ofString "search") pl) Q E s :=
  getM_psearch ((patD X).keeps F.keep) h
theorem getM_markW {prog : Program} {w w' : World} {A : Around} {E : Value → Shared → Prop} {s : Shared} {pl : Sem Bool} {g : Heap} {L : Addr} {m : Str → Option Value} {Q : Value × List Value → Shared → Prop} (F : Fr g L s.heap m) (X : (hd.heap_39 w'.params).In g) (h : Q (.builtin "re.Pattern.search", [.ref 83]) s) : wpAny (model prog w) A (getMethod (.ref 83) (Str.ofString "search") pl) Q E s :=
  getM_psearch ((patM X).keeps F.keep) h
local macro_rules | `(tactic| walk_at "getMethod ref") => `(tactic| (k_here; first
  | ((with_reducible refine' getM_keyW ?F ?X ?_); (case F => assumption); (case X => assumption))
  | ((with_reducible refine' getM_tokW ?F ?X ?_); (case F => assumption); (case X => assumption))
  | ((with_reducible refine' getM_delW ?F ?X ?_); (case F => assumption); (case X => assumption))
  | ((with_reducible refine' getM_markW ?F ?X ?_); (case F => assumption); (case X => assumption))
  | ((with_reducible refine' getM_group ?hp ?_); (case hp => k_dflt (exact News.get (by assumption) (by first | (with_reducible first | exact mm0 | exact mm1 | exact mm2 | exact mm3 | exact mm4 | exact mm5 | exact mm6 | exact mm7 | exact mm8 | exact mm9) | first | exact mm0 | exact mm1 | exact mm2 | exact mm3 | exact mm4 | exact mm5 | exact mm6 | exact mm7 | exact mm8 | exact mm9))))
  | ((with_reducible refine' getM_end ?hp ?_); (case hp => k_dflt (exact News.get (by assumption) (by first | (with_reducible first | exact mm0 | exact mm1 | exact mm2 | exact mm3 | exact mm4 | exact mm5 | exact mm6 | exact mm7 | exact mm8 | exact mm9) | first | exact mm0 | exact mm1 | exact mm2 | exact mm3 | exact mm4 | exact mm5 | exact mm6 | exact mm7 | exact mm8 | exact mm9))))
  | ((with_reducible refine' getM_start ?hp ?_); (case hp => k_dflt (exact News.get (by assumption) (by first | (with_reducible first | exact mm0 | exact mm1 | exact mm2 | exact mm3 | exact mm4 | exact mm5 | exact mm6 | exact mm7 | exact mm8 | exact mm9) | first | exact mm0 | exact mm1 | exact mm2 | exact mm3 | exact mm4 | exact mm5 | exact mm6 | exact mm7 | exact mm8 | exact mm9))))))
local macro_rules | `(tactic| walk_at "call builtin:re.Pattern.match") => `(tactic| (k_here; (try dsimp only [List.cons_append, List.nil_append]); (k_dflt (refine' key_W (patK (by assumption)) ?F ?N ?off ?hl ?hp ?_ ?_; (case F => assumption); (case N => assumption); (case off => assumption); (case hl => assumption); (case hp => assumption)); (intro M4' T4' h4' hk4' hle4' hc4' hC4' F4' N4' off4'))))
local macro_rules | `(tactic| walk_at "call builtin:re.Pattern.match") => `(tactic| (k_here; (try dsimp only [List.cons_append, List.nil_append]); (k_dflt (refine' tok_W (patT (by assumption)) ?F ?N ?off ?hl ?hp ?_ ?_; (case F => assumption); (case N => assumption); (case off => assumption); (case hl => assumption); (case hp => assumption)); (intro M3' T3' h3' hk3' hc3' hC3' F3' N3' off3'))))
local macro_rules | `(tactic| walk_at "call builtin:re.Pattern.search") => `(tactic| (k_here; (try dsimp only [List.cons_append, List.nil_append]); first
  | (k_dflt (refine' delim_W (patD (by assumption)) ?F ?N ?off ?hl (by exact rfl) ?hp ?_ ?_; (case F => assumption); (case N => assumption); (case off => assumption); (case hl => assumption); (case hp => assumption)); (intro M2' T2' h2' d2' hd2' hle2' F2' N2' off2'))))
local macro_rules | `(tactic| walk_at "call builtin:re.Match.group") => `(tactic| (k_here; (try dsimp only [List.cons_append, List.nil_append]); k_dflt (first
  | refine call_group1 (News.get (by assumption) (by first | (with_reducible first | exact mm0 | exact mm1 | exact mm2 | exact mm3 | exact mm4 | exact mm5 | exact mm6 | exact mm7 | exact mm8 | exact mm9) | first | exact mm0 | exact mm1 | exact mm2 | exact mm3 | exact mm4 | exact mm5 | exact mm6 | exact mm7 | exact mm8 | exact mm9)) (News.get (by assumption) (by first | (with_reducible first | exact mm0 | exact mm1 | exact mm2 | exact mm3 | exact mm4 | exact mm5 | exact mm6 | exact mm7 | exact mm8 | exact mm9) | first | exact mm0 | exact mm1 | exact mm2 | exact mm3 | exact mm4 | exact mm5 | exact mm6 | exact mm7 | exact mm8 | exact mm9)) (by omega) (by exact (by decide : 2 < 4)) (by exact rfl) (by exact rfl) ?_
  | refine call_group0 (News.get (by assumption) (by first | (with_reducible first | exact mm0 | exact mm1 | exact mm2 | exact mm3 | exact mm4 | exact mm5 | exact mm6 | exact mm7 | exact mm8 | exact mm9) | first | exact mm0 | exact mm1 | exact mm2 | exact mm3 | exact mm4 | exact mm5 | exact mm6 | exact mm7 | exact mm8 | exact mm9)) (News.get (by assumption) (by first | (with_reducible first | exact mm0 | exact mm1 | exact mm2 | exact mm3 | exact mm4 | exact mm5 | exact mm6 | exact mm7 | exact mm8 | exact mm9) | first | exact mm0 | exact mm1 | exact mm2 | exact mm3 | exact mm4 | exact mm5 | exact mm6 | exact mm7 | exact mm8 | exact mm9)) (by omega) (by exact rfl) (by exact rfl) ?_)))
local macro_rules | `(tactic| walk_at "call builtin:re.Match.end") => `(tactic| (k_here; (try dsimp only [List.cons_append, List.nil_append]); k_dflt (refine end_W (News.get (by assumption) (by first | (with_reducible first | exact mm0 | exact mm1 | exact mm2 | exact mm3 | exact mm4 | exact mm5 | exact mm6 | exact mm7 | exact mm8 | exact mm9) | first | exact mm0 | exact mm1 | exact mm2 | exact mm3 | exact mm4 | exact mm5 | exact mm6 | exact mm7 | exact mm8 | exact mm9)) (News.get (by assumption) (by first | (with_reducible first | exact mm0 | exact mm1 | exact mm2 | exact mm3 | exact mm4 | exact mm5 | exact mm6 | exact mm7 | exact mm8 | exact mm9) | first | exact mm0 | exact mm1 | exact mm2 | exact mm3 | exact mm4 | exact mm5 | exact mm6 | exact mm7 | exact mm8 | exact mm9)) ?_)))
local macro_rules | `(tactic| walk_at "call builtin:re.Match.start") => `(tactic| (k_here; (try dsimp only [List.cons_append, List.nil_append]); k_dflt (refine call_start (News.get (by assumption) (by first | (with_reducible first | exact mm0 | exact mm1 | exact mm2 | exact mm3 | exact mm4 | exact mm5 | exact mm6 | exact mm7 | exact mm8 | exact mm9) | first | exact mm0 | exact mm1 | exact mm2 | exact mm3 | exact mm4 | exact mm5 | exact mm6 | exact mm7 | exact mm8 | exact mm9)) (News.get (by assumption) (by first | (with_reducible first | exact mm0 | exact mm1 | exact mm2 | exact mm3 | exact mm4 | exact mm5 | exact mm6 | exact mm7 | exact mm8 | exact mm9) | first | exact mm0 | exact mm1 | exact mm2 | exact mm3 | exact mm4 | exact mm5 | exact mm6 | exact mm7 | exact mm8 | exact mm9)) rfl ?_)))
local macro_rules | `(tactic| walk_at "truthy ref") => `(tactic| (k_here; k_dflt (refine truthy_match (typeIs_match (News.get (by assumption) (by first | (with_reducible first | exact mm0 | exact mm1 | exact mm2 | exact mm3 | exact mm4 | exact mm5 | exact mm6 | exact mm7 | exact mm8 | exact mm9) | first | exact mm0 | exact mm1 | exact mm2 | exact mm3 | exact mm4 | exact mm5 | exact mm6 | exact mm7 | exact mm8 | exact mm9))) ?_)))
local macro_rules | `(tactic| walk_at "call builtin:str.lower") => `(tactic| (k_here; (try dsimp only [List.cons_append, List.nil_append]); refine lower_call (by assumption) ?_; intro t1' k1' hL1' hl1'))
local macro_rules | `(tactic| walk_at "call builtin:list.append") => `(tactic| (k_here; (try dsimp only [List.cons_append, List.nil_append]); k_dflt (refine app_T (by assumption) (by assumption) (by assumption) rfl (by assumption) ?_); intro h8' F8' N8' off8'))
local macro_rules | `(tactic| walk_at "exec While Compare") => `(tactic| (k_here; k_dflt (refine' in_loop (q0 := _ + 1) ?F ?N (by exact rfl) ?k1 ?hq ?_ ?hE; (case F => assumption); (case N => assumption); (case k1 => with_unfolding_all rfl); (case hq => exact lt_of_get (by assumption)); (case hE => passes_own)); (intro q7' tq7' h7' tk7' hQ7' F7' N7')))
local macro_rules | `(tactic| walk_at "call builtin:str.startswith") => `(tactic| (k_here; (try dsimp only [List.cons_append, List.nil_append]); k_dflt (refine startsQ q34 (by exact rfl) (by first | assumption | exact (by assumption : QInv _ _ _).2.1) ?_)))
local macro_rules | `(tactic| walk_at "subscriptTail Name Slice str ref") => `(tactic| (k_here; k_dflt (refine' slice_W (b := _ + 1) (s := ⟨_, _, _, _, _⟩) (by exact rfl) (by exact rfl) ?hab ?hb ?hl ?F ?N ?_; (case F => assumption); (case N => assumption); (case hl => assumption); (case hab => exact le_q (by assumption)); (case hb => exact lt_of_get (by assumption))); intro h2' t2' k2' hC2' F2' N2'))
theorem starts_tupW {prog : Program} {w : World} {A : Around} {E : Value → Shared → Prop} {s : Shared} {x p q : Str} {T D L : Addr} {t tp tq v : Tok} {i : Nat} {h₀ : Heap} {o : Obj} {own : List (Addr × Obj)} {Q : Value → Shared → Prop} (N : News h₀ L s.heap ((T, { cls := .type "tuple", data := .seq [Value.str p tp, .str q tq].toArray }) :: ([(D, o)] ++ own)))
    (h : News h₀ L s.heap ([(D, o)] ++ own) → Q (.bool (stAt x p i || stAt x q i)) s) : wpAny (model prog w) A (call (.builtin "str.startswith") [.str x t, .ref T, .int (i : Int) v]) Q E s :=
  starts_tup ⟨_, (N _ (.head _)).1, rfl, _, rfl⟩ (h fun p hp => N p (List.mem_cons_of_mem _ hp))
local macro_rules | `(tactic| walk_at "call builtin:str.startswith") => `(tactic| (k_here; (try dsimp only [List.cons_append, List.nil_append]); k_dflt (refine starts_tupW (by assumption) ?_); intro N0'))
local macro_rules | `(tactic| walk_at "InEnd") => `(tactic| (k_here; (with_reducible show InEnd _ _ _ _ _ _ _ _ _ _ _ Flow.brk _); unfold InEnd; dsimp only))
local macro_rules | `(tactic| walk_at "InEnd") => `(tactic| (k_here; show InFin _ _ _ _ _ _ _ _ _ _ _; k_dflt (refine' in_fin2 ?F ?N ?hs ?hQ ?hb ?k1 ?hm; (case F => assumption); (case N => assumption); (case hQ => assumption); (case hb => assumption); (case k1 => with_unfolding_all rfl); (case hs => first | exact fun p hp => hp | exact fun p hp => List.mem_cons_of_mem _ hp); (case hm => (intro z hz; simp only [hz, if_false])))))
local macro_rules | `(tactic| walk_at "InEnd") => `(tactic| (k_here; show InFin _ _ _ _ _ _ _ _ _ _ _; k_dflt (refine' in_fin1 ?F ?N ?hs ?hQ ?hlt ?hb ?hn ?k1 ?hm; (case F => assumption); (case N => assumption); (case hQ => assumption); (case hlt => assumption); (case hb => assumption); (case hn => assumption); (case k1 => with_unfolding_all rfl); (case hs => first | exact fun p hp => hp | exact fun p hp => List.mem_cons_of_mem _ hp); (case hm => (intro z hz; simp only [hz, if_false])))))
local macro_rules | `(tactic| walk_at "OutEnd") => `(tactic| (k_here; show OutFin _ _ _ _ _ _ _; k_dflt (refine' out_fin ?F ?N ?off ?t ?o ?e4; (case F => assumption); (case N => assumption); (case off => assumption); (case t => first | exact stop0 (by assumption) (by assumption) (ph_stop (by assumption) (by assumption) (by assumption) (by assumption) (by assumption)) | exact brk0 (by assumption) (by assumption) (by assumption) (by first | exact ph_nokey (by assumption) | exact ph_none (by assumption) (by assumption) (by assumption)) (by assumption) | exact brk1 (by assumption) (by assumption) (by assumption) (by first | exact ph_tok (by assumption) (by assumption) | exact ph_quo (by assumption) (by assumption) (by assumption) (by assumption) (by assumption)) (by assumption)); (case o => (intro p hp; first | (simp only [List.mem_cons, hp, or_true]; done) | (rcases List.mem_append.mp hp with hp | hp; (simp only [List.mem_cons, hp, or_true]); (simp only [List.mem_singleton] at hp; simp only [List.mem_cons, hp, true_or, or_true])))); (case e4 => (intro z hz; simp only [outN, not_or] at hz; obtain ⟨h1, h2, h3, h4, h5, h6⟩ := hz; simp only [h1, h2, h3, h4, h5, h6, if_false])))))
local macro_rules | `(tactic| walk_at "OutEnd") => `(tactic| (k_here; show OutGo _ _ _ _ _ _ _ _ _ _; k_dflt (refine' out_go ?F ?N ?off ?t ?o ?hg ?h1 ?h2 ?h3 ?e4; (case F => assumption); (case N => assumption); (case off => assumption); (case h3 => with_unfolding_all rfl); (case t => first | assumption | exact TupsAre.push (by assumption)); (case hg => first | exact go0 (by assumption) (by assumption) (by first | exact ph_nokey (by assumption) | exact ph_none (by assumption) (by assumption) (by assumption)) (by assumption) | exact pr_go (by assumption) (by assumption) (by first | exact ph_tok (by assumption) (by assumption) | exact ph_quo (by assumption) (by assumption) (by assumption) (by assumption) (by assumption)) (by assumption)); (case h2 => assumption); (case h1 => first | exact go_lt (by first | exact ph_nokey (by assumption) | exact ph_none (by assumption) (by assumption) (by assumption)) _ | exact go_lt (by first | exact ph_tok (by assumption) (by assumption) | exact ph_quo (by assumption) (by assumption) (by assumption) (by assumption) (by assumption)) _); (case o => (intro p hp; first | (simp only [List.mem_cons, hp, or_true]; done) | (rcases List.mem_append.mp hp with hp | hp; (simp only [List.mem_cons, hp, or_true]); (simp only [List.mem_singleton] at hp; simp only [List.mem_cons, hp, true_or, or_true])))); (case e4 => (intro z hz; simp only [outN, not_or] at hz; obtain ⟨h1, h2, h3, h4, h5, h6⟩ := hz; simp only [h1, h2, h3, h4, h5, h6, if_false])))))
theorem ms0 {p : Addr × Obj} {r : List (Addr × Obj)} : p ∈ p :: r := by simp
theorem ms1 {a0 p : Addr × Obj} {r : List (Addr × Obj)} : p ∈ a0 :: p :: r := by simp
theorem ms2 {a0 a1 p : Addr × Obj} {r : List (Addr × Obj)} : p ∈ a0 :: a1 :: p :: r := by simp
theorem ms3 {a0 a1 a2 p : Addr × Obj} {r : List (Addr × Obj)} : p ∈ a0 :: a1 :: a2 :: p :: r := by simp
theorem ms4 {a0 a1 a2 a3 p : Addr × Obj} {r : List (Addr × Obj)} : p ∈ a0 :: a1 :: a2 :: a3 :: p :: r := by simp
theorem ms5 {a0 a1 a2 a3 a4 p : Addr × Obj} {r : List (Addr × Obj)} : p ∈ a0 :: a1 :: a2 :: a3 :: a4 :: p :: r := by simp
theorem ms6 {a0 a1 a2 a3 a4 a5 p : Addr × Obj} {r : List (Addr × Obj)} : p ∈ a0 :: a1 :: a2 :: a3 :: a4 :: a5 :: p :: r := by simp
theorem ms7 {a0 a1 a2 a3 a4 a5 a6 p : Addr × Obj} {r : List (Addr × Obj)} : p ∈ a0 :: a1 :: a2 :: a3 :: a4 :: a5 :: a6 :: p :: r := by simp
local macro_rules | `(tactic| walk_at "OutEnd") => `(tactic| (k_here; show OutFin _ _ _ _ _ _ _; k_dflt (refine' out_fin1 ?F ?N ?off ?t ?h ?hlt ?hh ?hd ?hm ?o ?e4; (case F => assumption); (case N => assumption); (case off => assumption); (case t => assumption); (case h => assumption); (case hlt => assumption); (case hh => exact (by first | exact ph_tok (by assumption) (by assumption) | exact ph_quo (by assumption) (by assumption) (by assumption) (by assumption) (by assumption))); (case hd => assumption); (case hm => first | exact ms0 | exact ms1 | exact ms2 | exact ms3 | exact ms4 | exact ms5 | exact ms6 | exact ms7); (case o => (intro p hp; simp only [List.mem_cons, hp, or_true])); (case e4 => (intro z hz; simp only [outN, not_or] at hz; obtain ⟨h1, h2, h3, h4, h5, h6⟩ := hz; simp only [h1, h2, h3, h4, h5, h6, if_false])))))
local macro_rules | `(tactic| walk_at "OutEnd") => `(tactic| (k_here; show OutGo _ _ _ _ _ _ _ _ _ _; k_dflt (refine' out_go1 ?F ?N ?off ?t ?h ?hlt ?hh ?hd ?hm ?o ?h2 ?h3 ?e4; (case F => assumption); (case N => assumption); (case off => assumption); (case t => assumption); (case h => assumption); (case hlt => assumption); (case hh => exact (by first | exact ph_tok (by assumption) (by assumption) | exact ph_quo (by assumption) (by assumption) (by assumption) (by assumption) (by assumption))); (case hd => assumption); (case hm => first | exact ms0 | exact ms1 | exact ms2 | exact ms3 | exact ms4 | exact ms5 | exact ms6 | exact ms7); (case o => (intro p hp; simp only [List.mem_cons, hp, or_true])); (case h2 => assumption); (case h3 => with_unfolding_all rfl); (case e4 => (intro z hz; simp only [outN, not_or] at hz; obtain ⟨h1, h2, h3, h4, h5, h6⟩ := hz; simp only [h1, h2, h3, h4, h5, h6, if_false])))))
theorem pct_c : Str.ofString "%22" = S [37, 50, 50] := by decide +kernel
theorem pv_loopW {w : World} {A : Around} {E : Value → Shared → Prop} {s : Shared} {env : Env} {h₀ : Heap} {body : List Stmt} {Q : Flow → Shared → Prop} {m₀ : Str → Option Value} {L O C D : Addr} {o oc : Obj} {us : Array Value} {num : Nat} {tups : List (Addr × Obj)} {ps : List PairL} {oe : PySem.Expr} {pk pv pt pos : Pos} {x1 : Nat} {R : Prop}
    (hh : A.handled = none) (F : Fr h₀ L s.heap m₀) (N : News h₀ L s.heap ((C, oc) :: (O, o) :: ([(D, listOf us num)] ++ tups))) (hL : env.locals = L) (hl : O < C ∧ R) (hT : TupsAre us tups ps) (hd : o.IsDictOf (PySem.strKind PG w) []) (hb : ∀ p ∈ ps, PairOk p) (hn : ps.length ≤ 500)
    (ho : ∀ Q', Q' (.ref D) s → wpAny (model PG w) A (eval oe env) Q' E s)
    (turn : ∀ (j : Nat) (x : List Nat) tk tx (o : Obj) (kvs : List (Str × Value)) (rows : List RowL) (u : Str → Option Value) h tk' own, j < 4 → x.length ≤ 100 → (S x).length ≤ 100 → 37 ∉ x → o.IsDictOf (PySem.strKind PG w) kvs → RowsAre kvs rows → rows.length ≤ 600 → OwnOff ((C, oc) :: own) [O] →
      Fr h₀ L h (fun y => if y = Str.ofString "pv" then some (.str (S x) tx) else if y = Str.ofString "pk" then some (.str (S (keyN j)) tk) else if y = Str.ofString "has_continuation" then u y else if y = Str.ofString "has_charset" then u y else if y = Str.ofString "m_mark" then u y else m₀ y) →
      News h₀ L h ([(O, o)] ++ ((C, oc) :: own)) →
      wpAny (model PG w) A (execs body env) (PVEnd h₀ L O m₀ ((C, oc) :: own) w (putR rows (keyN j) (some (unq x))) { s with heap := h, toks := tk' } Q) E { s with heap := h, toks := tk' })
    (done : ∀ (o : Obj) (kvs : List (Str × Value)) (u : Str → Option Value) h tk, o.IsDictOf (PySem.strKind PG w) kvs → RowsAre kvs (ps.foldl pvStep []) → kvs.length ≤ 600 →
      Fr h₀ L h (fun y => if y = Str.ofString "pv" then u y else if y = Str.ofString "pk" then u y else if y = Str.ofString "has_continuation" then u y else if y = Str.ofString "has_charset" then u y else if y = Str.ofString "m_mark" then u y else m₀ y) →
      News h₀ L h [(O, o), (C, oc)] → Q .next { s with heap := h, toks := tk })
    (hxk : env.kindOf (Str.ofString "pk") = some .local) (hxv : env.kindOf (Str.ofString "pv") = some .local)
    (hp : (env.scope.kind == .class || (env.scope.kind == .module && env.locals != env.globals)) = false)
    (hs : ∀ x, foldedSetIterable oe env x = pure x)
    (hE : PassesOwn (model PG w) A env E) :
    wpAny (model PG w) A (exec (.For (.Tuple [.Name (Str.ofString "pk") pk, .Name (Str.ofString "pv") pv] x1 pt) oe body [] pos) env) Q E s := by
  obtain ⟨N', off⟩ := off_pv N hd hT hl
  exact pv_loop hh F N' hL off hT hd hb hn ho turn (fun o kvs u h tk a b c d => done o kvs u h tk a b (by rw [b.len]; have := pvFold_len ps []; simp only [List.length_nil] at this; omega) c fun p hp => d p (by simp at hp ⊢; rcases hp with h | h <;> simp [h])) hxk hxv hp hs hE
local macro_rules | `(tactic| walk_at "exec For Tuple Name cons nil") => `(tactic| (k_here; k_dflt (refine' pv_loopW ?hh ?F ?N ?hL ?hl ?hT ?hd ?hb ?hn ?ho ?tp ?dp ?k1 ?k2 ?k3 ?k6 ?k7; (case F => assumption); (case N => assumption); (case hh => rfl); (case hL => rfl); (case ho => exact fun Q' hq => ld (by assumption) (by with_unfolding_all rfl) hq); (case hl => assumption); (case hT => assumption); (case hd => assumption); (case hb => assumption); (case hn => assumption); (case k1 => rfl); (case k2 => rfl); (case k3 => rfl); (case k6 => intro _; rfl); (case k7 => passes_own)); (case' tp => intro j9' x9' tk9' tx9' o9' kvs9' rows9' u9' h9' tk9' own9' hj9' hx9' hX9' h37' hd9' hR9' hn9' off9' F9' N9'); (case' dp => intro o9' kvs9' u9' h9' tk9' hd9' hR9' hk9' F9' N9')))
local macro_rules | `(tactic| walk_at "call builtin:re.Pattern.search") => `(tactic| (k_here; (try dsimp only [List.cons_append, List.nil_append]); k_dflt (refine' mark_W (patM (by assumption)) ?hk ?F ?N ?off ?_; (case hk => assumption); (case F => assumption); (case N => assumption); (case off => assumption)); (intro M2' T2' h2' li2' F2' N2' off2')))
local macro_rules | `(tactic| walk_at "call builtin:re.Match.end") => `(tactic| (k_here; (try dsimp only [List.cons_append, List.nil_append]); k_dflt (refine end_L (News.get (by assumption) (by exact mm1)) (News.get (by assumption) (by exact mm2)) ?_)))
local macro_rules | `(tactic| walk_at "call builtin:re.Match.start") => `(tactic| (k_here; (try dsimp only [List.cons_append, List.nil_append]); k_dflt (refine start_L (News.get (by assumption) (by exact mm1)) (News.get (by assumption) (by exact mm2)) ?_)))
local macro_rules | `(tactic| walk_at "call builtin:str.replace") => `(tactic| (k_here; (try dsimp only [List.cons_append, List.nil_append]); k_dflt (refine repl_none (c := 37) (y := [37, 50, 50]) (z := []) pct_c (by decide) (unq_free (by assumption)) ?_)))
local macro_rules | `(tactic| walk_at "call ref") => `(tactic| (k_here; (try dsimp only [List.cons_append, List.nil_append]); (k_dflt (refine' call_unq ?kA ?kF ?kB ?kX ?kT ?kN ?kp ?kk ?kd ?ku ?kv ?_; (case kA => rfl); (case kF => k_asm); (case kB => k_asm); (case kX => k_asm); (case kT => k_asm); (case kN => k_asm); (case kp => exact TabFull.keeps (by assumption) (by assumption)); (case kk => rfl); (case kd => ktr_room); (case ku => dsimp only [Around.deeper, ktrTop]; omega); (case kv => (first | assumption | omega))); intro t7' h7' k7' F7' N7')))
local macro_rules | `(tactic| walk_at "compareOp In str ref") => `(tactic| (k_here; k_dflt (refine kda_in (knd := PySem.strKind _ _) (by assumption) mm0 (by assumption) (by assumption) (strKind_is _ _ _ _) false (by rfl) ?_)))
local macro_rules | `(tactic| walk_at "setItem ref str") => `(tactic| (k_here; (try dsimp only [List.cons_append, List.nil_append]); (k_dflt (refine' set_row (by assumption) (by assumption) (by assumption) (by assumption) (by assumption) (by assumption) val_some ?_); intro h5' o5' kvs5' tk5' F5' N5' hd5' hR5')))
local macro_rules | `(tactic| walk_at "PVEnd") => `(tactic| (k_here; show PVFin _ _ _ _ _ _ _ _ _; k_dflt (refine' ⟨_, _, _, _, _, _, rfl, by assumption, by assumption, mem_hd, ?o, ?hd, ?hR, ?e4⟩; (case e4 => (intro z hz; simp only [pvOut, not_or] at hz; obtain ⟨h1, h2, h3, h4, h5⟩ := hz; simp only [h1, h2, h3, h4, h5, if_false])); (case hd => assumption); (case hR => assumption); (case o => (intro p hp; (rcases List.mem_cons.mp hp with hp | hp); (simp only [List.cons_append, List.nil_append, List.mem_cons, hp, true_or, or_true]); (simp only [List.cons_append, List.nil_append, List.mem_cons, hp, or_true]))))))
local macro_rules | `(tactic| walk_at "getMethod ref") => `(tactic| (k_here; ((with_reducible refine' getM_upd ?hp ?_); (case hp => k_dflt (exact kda_dict (knd := PySem.strKind _ _) (by assumption) (.head _) (by assumption))))))
local macro_rules | `(tactic| walk_at "eval DictComp") => `(tactic| (k_here; k_dflt (refine' dc_W ?hh ?F ?N ?hm ?hc ?lo ?hbig ?ho ?_ ?k1 ?k2 ?k3 ?k4 ?k5 ?k6 ?k7; (case hh => rfl); (case F => assumption); (case N => assumption); (case ho => exact fun Q' hq => ld (by assumption) (by with_unfolding_all rfl) hq); (case hm => exact ms1); (case hc => assumption); (case lo => assumption); (case hbig => exact Top.nolimit (by assumption)); (case k1 => with_unfolding_all rfl); (case k2 => decide); (case k3 => rfl); (case k4 => decide); (case k5 => rfl); (case k6 => rfl); (case k7 => intro _; rfl)); intro D0' h0' tk0' F0' N0' hD0' hn0' lo0'))
local macro_rules | `(tactic| walk_at "call builtin:dict.update") => `(tactic| (k_here; (try dsimp only [List.cons_append, List.nil_append]); k_dflt (refine' update_W ?F ?N ?hd ?hsz ?hD2 ?hne ?lo ?_; (case F => assumption); (case N => assumption); (case hd => assumption); (case hsz => assumption); (case hD2 => assumption); (case hne => exact ne_new (by assumption) (by assumption)); (case lo => assumption)); intro h00' o00' F00' N00' hd00'))
/-- what parse_options_header reads -/
def parseO (v : List Nat) : List RowL := if strip2 (bef 59 v) = [] ∨ strip2 (aft 59 v) = [] then [] else (poRun ((strip2 (aft 59 v)).length + 1) (strip2 (aft 59 v)) 0).foldl pvStep []
/-- r is a new pair of the text and a new dict of these rows -/
def PoRes (val : List Nat) (rows : List RowL) (w : World) (h h' : Heap) (r : Value) : Prop := ∃ T O t kvs o, r = .ref T ∧ h'.get? T = some { cls := .type "tuple", data := .seq [Value.str (S val) t, .ref O].toArray } ∧ h'.get? O = some o ∧ o.IsDictOf (PySem.strKind PG w) kvs ∧ RowsAre kvs rows ∧ h.get? T = none ∧ h.get? O = none ∧ (O == sysModules) = false
theorem get_none {h g h' : Heap} {L' D : Addr} {o : Obj} {r : List (Addr × Obj)} (hst : h.StaysIn g) (N : News g L' h' r) (hm : (D, o) ∈ r) : h.get? D = none := by
  cases e : h.get? D with
  | none => rfl
  | some o' => have := (N _ hm).2.2; rw [hst _ _ e] at this; cases this
theorem po_ret {Q : Value → Shared → Prop} {w : World} {val : List Nat} {rows : List RowL} {s : Shared} {g h' : Heap} {L' T O : Addr} {t : Tok} {m' : Str → Option Value} {o : Obj} {kvs : List (Str × Value)} {r : List (Addr × Obj)} {tk : Nat} (ret : ∀ (r : Value) (h' : Heap) (tk' : Nat), s.heap.StaysIn h' → PoRes val rows w s.heap h' r → Q r { s with heap := h', toks := tk' })
    (hst : s.heap.StaysIn g) (F : Fr g L' h' m') (N : News g L' h' ((T, { cls := .type "tuple", data := .seq [Value.str (S val) t, .ref O].toArray }) :: (O, o) :: r)) (hd : o.IsDictOf (PySem.strKind PG w) kvs) (hR : RowsAre kvs rows) (hlo : (O == sysModules) = false) : Q (.ref T) { s with heap := h', toks := tk } :=
  ret _ _ _ (stays_end hst F) ⟨T, O, t, kvs, o, rfl, (N _ (.head _)).1, (N _ (.tail _ (.head _))).1, hd, hR, get_none hst N (.head _), get_none hst N (.tail _ (.head _)), hlo⟩
theorem po_r1 {v : List Nat} (h : ((S (strip2 (bef 59 v))).length : Int) = 0) : RowsAre [] (parseO v) := by
  unfold parseO; rw [if_pos (.inl (len0 h))]; exact .nil
theorem po_r2 {v : List Nat} (h : ((S (strip2 (aft 59 v))).length : Int) = 0) : RowsAre [] (parseO v) := by
  unfold parseO; rw [if_pos (.inr (len0 h))]; exact .nil
theorem po_r3 {v : List Nat} {kvs : List (Str × Value)} (h1 : ¬ ((S (strip2 (bef 59 v))).length : Int) = 0) (h2 : ¬ ((S (strip2 (aft 59 v))).length : Int) = 0) (hR : RowsAre kvs ((poRun ((strip2 (aft 59 v)).length + 1) (strip2 (aft 59 v)) 0).foldl pvStep [])) : RowsAre kvs (parseO v) := by
  unfold parseO; rw [if_neg (fun h => h.elim (len1 h1) (len1 h2))]; exact hR
local macro_rules | `(tactic| walk_at "call builtin:re.Pattern.search") => `(tactic| (k_here; (try dsimp only [List.cons_append, List.nil_append]); (k_dflt (refine' delim_W (p := _ + 1) (patD (by assumption)) ?F ?N ?off ?hl (by exact rfl) ?hp ?_ ?_; (case F => assumption); (case N => assumption); (case off => assumption); (case hl => assumption); (case hp => exact lt_of_get (by assumption))); (intro M2' T2' h2' d2' hd2' hle2' F2' N2' off2'))))
set_option maxRecDepth 100000 in
set_option maxHeartbeats 8000000 in
theorem con_popts (w : World) (mean : ExcName → Option Value) (mg mb : Str → Option Value) (v : List Nat) (tv : Tok) (hv : v.length ≤ 500) (hcap : (poRun ((strip2 (aft 59 v)).length + 1) (strip2 (aft 59 v)) 0).length ≤ 500) (hok : ∀ p ∈ poRun ((strip2 (aft 59 v)).length + 1) (strip2 (aft 59 v)) 0, PairOk p) :
    Con w mean mg mb 4 TabFull 98 [.str (S v) tv] [] (PoRes (strip2 (bef 59 v)) (parseO v) w) := by
  intro dp un gd cn cs a ccd cl outer A₀ base h₀ L m s Q E B F X T hp hk hdp hu ret
  have hS : (S v).length ≤ 500 := by rw [S_len]; exact hv
  refine wpAny_call ?_
  walk_at "my enterP"
  walk_at "my steps"
  all_goals first | exact po_ret ret (by assumption) (by assumption) (by assumption) (by assumption) (po_r3 (by assumption) (by assumption) (by assumption)) (by assumption) | exact po_ret ret (by assumption) (by assumption) (by assumption) (by assumption) (po_r1 (by assumption)) (by assumption) | exact po_ret ret (by assumption) (by assumption) (by assumption) (by assumption) (po_r2 (by assumption)) (by assumption)
end
end Mine
end
section
local macro_rules | `(tactic| walk_at "idle 0") => `(tactic| skip)
open PySem PySem.W PyProof.Rows PySem.Calls PySem.Spec
namespace Mine
open LCg LCt RE
section
local macro_rules | `(tactic| walk_at "my enterP") => `(tactic| k_dflt (refine' enter_plain ?k1 ?k2 ?k3 ?k5 ?kA ?kF ?kK ?k6 ?k7 ?k8 ?k9 ?kB ?kL ?_ ?c2 ?c3 ?c4 ?c5; (case kA => exact rfl); (case kF => exact rfl); (case kK => assumption); (case k1 => k_asm); (case k2 => k_asm); (case k3 => k_asm); (case k5 => k_asm); (case k6 => k_is); (case k7 => k_is); (case k8 => ktr_room); (case k9 => exact BindsTo.of_eq rfl); (case c5 => decide); (case kB => exact locs rfl); (case kL => exact ⟨_, _, rfl⟩); (case c2 => exact rfl); (case c3 => exact rfl); (case c4 => exact rfl); k_whole; intro g' L' h' tk' htk' hst' FG' F' N' B' X' T'; (try dsimp only); (try k_lift B'); (try k_fold)))
local macro_rules | `(tactic| walk_at "execs cons") => `(tactic| (k_here; (with_reducible refine execs_cons_tk (by first | assumption | (dsimp only; omega)) ?_); try dsimp only))
local macro_rules | `(tactic| walk_at "execs nil") => `(tactic| (k_here; (with_reducible refine wpAny_execs_nil ?_); try dsimp only))
local macro_rules | `(tactic| walk_at "my steps") => `(tactic| repeat' (first | (k_unfold; (try dsimp only)) | walk1 | (dsimp only; walk1) | (leave1; (try dsimp only)) | fail "no step"))
local macro_rules | `(tactic| walk_at "LeaveK") => `(tactic| (k_here; k_dflt (refine' leaveK_ ?k1 ?k2 ?_; (case k1 => k_asm); (case k2 => k_asm)); intro kF kN; (try dsimp only)))

theorem fillK10 : PySem.Challenge.rw_vm0023_01 = PySem.Challenge.rw_vm0023_01 ∧ hd.heap_39 = hd.heap_39 := by
  k_fill
  exact ⟨rfl, rfl⟩
def atL (ns : List Int) (k : Nat) (o : Int) : Int := (ns[k]?).getD o
theorem len_W {prog : Program} {w : World} {A : Around} {E : Value → Shared → Prop} {s : Shared} {h g : Heap} {a L : Addr} {vs : List Value} {ns : List Int} {m : Str → Option Value} {Q : Value → Shared → Prop} (hp : h.IsList a vs.toArray) (hst : h.StaysIn g) (F : Fr g L s.heap m) (hI : IntsAre vs ns) (hn : ns.length ≤ 63)
    (k : ∀ t tk, Q (.int (ns.length : Int) t) { s with toks := tk }) : wpAny (model prog w) A (call (.builtin "len") [.ref a]) Q E s := by
  have e : vs.toArray.size = ns.length := by rw [List.size_toArray]; exact hI.length
  refine len_list (isList_stays (fun b o e => F.keep b o (hst b o e)) hp) (by rw [e]; omega) ?_
  rw [e]; exact k _ _
local macro_rules | `(tactic| walk_at "call builtin:len") => `(tactic| (k_here; (try dsimp only [List.cons_append, List.nil_append]); k_dflt (refine len_W (by assumption) (by assumption) (by assumption) (by assumption) (by assumption) ?_); intro t9' k9'))
theorem item_W {prog : Program} {w : World} {A : Around} {E : Value → Shared → Prop} {s : Shared} {value slice : PySem.Expr} {h g : Heap} {a L : Addr} {vs : List Value} {ns : List Int} {m : Str → Option Value} {k : Nat} {u : Tok} {Q : Value → Shared → Prop} (hp : h.IsList a vs.toArray) (hst : h.StaysIn g) (F : Fr g L s.heap m) (hI : IntsAre vs ns) (hn : ns.length ≤ 63) (hk : (k : Int) < (ns.length : Int))
    (hq : ∀ t tk, Q (.int (atL ns k 0) t) { s with toks := tk })
    (hs : subscripted slice false (.ref a) (.int (k : Int) u) = operate [.ref a, .int (k : Int) u] (getItem (.ref a) (.int (k : Int) u)) := by with_unfolding_all rfl) (hg : ∀ r, letTemporaryGo value (.ref a) r = pure () := by intro _; with_unfolding_all rfl) :
    wpAny (model prog w) A (subscriptTail value slice (.ref a) (.int (k : Int) u)) Q E s := by
  have hlt : k < ns.length := by omega
  obtain ⟨t, hx⟩ := hI.get k ns[k] (by simp [hlt])
  have e : atL ns k 0 = ns[k] := by unfold atL; rw [List.getElem?_eq_getElem hlt]; rfl
  refine item_listL (isList_stays (fun b o e => F.keep b o (hst b o e)) hp) (by omega) (by omega) (x := .int ns[k] t) (by simpa using hx) ?_ hs hg
  rw [← e]; exact hq t s.toks
local macro_rules | `(tactic| walk_at "subscriptTail Name Name ref int") => `(tactic| (k_here; k_dflt (refine item_W (by assumption) (by assumption) (by assumption) (by assumption) (by assumption) (by assumption) ?_); intro t8' k8'))
theorem at_in {ns : List Int} {k : Nat} {o : Int} (h : (k : Int) < (ns.length : Int)) : atL ns k 0 = atL ns k o := by
  unfold atL; rw [List.getElem?_eq_getElem (by omega)]; rfl
theorem at_out {ns : List Int} {k : Nat} {o : Int} (h : ¬ (k : Int) < (ns.length : Int)) : o = atL ns k o := by
  unfold atL; rw [List.getElem?_eq_none (by omega)]; rfl
theorem int_eq {a b : Int} {t : Tok} (h : a = b) : Value.int a t = Value.int b t := by rw [h]
set_option maxRecDepth 100000 in
set_option maxHeartbeats 8000000 in
theorem con_lat (w : World) (mean : ExcName → Option Value) (mg mb : Str → Option Value) (a : Addr) (vs : List Value) (ns : List Int) (hI : IntsAre vs ns) (hn : ns.length ≤ 63) (k : Nat) (hk : k < 8) (o : Int) (tk to : Tok) :
    Con w mean mg mb 1 (fun h => h.IsList a vs.toArray) 105 [.ref a, .int (k : Int) tk, .int o to] [] (fun _ _ r => ∃ t, r = .int (atL ns k o) t) := by
  intro dp un gd cn cs a' ccd cl outer A₀ base h₀ L m s Q E B F X T hp hkk hdp hu ret
  replace hp : s.heap.IsList a vs.toArray := hp
  refine wpAny_call ?_
  walk_at "my enterP"
  walk_at "my steps"
  · exact ret _ _ _ (stays_end (by assumption) (by assumption)) ⟨_, int_eq (at_in (by assumption))⟩
  · exact ret _ _ _ (stays_end (by assumption) (by assumption)) ⟨_, int_eq (at_out (by assumption))⟩
end
end Mine
end
section
local macro_rules | `(tactic| walk_at "idle 0") => `(tactic| skip)
open PySem PySem.W PyProof.Rows PySem.Calls PySem.Spec
namespace Mine
open LCg LCt RE
section
variable {prog : Program} {w : World} {A A₀ : Around} {E : Value → Shared → Prop} {s : Shared} {K : Frag} {L : Addr} {h₀ base : Heap} {m mg mb : Str → Option Value} {p : Program} {loose : List Str} {mean : ExcName → Option Value}
theorem enter_cells0 {env : Env} {outer : List Env} {R : Result → Shared → Prop} {name qual : Str} {params : Arguments} {body : List Stmt} {scope : Scope} {dV kV doc pm cdv ct oc : Value} {an od : Option Addr} {osl : Array (Option Value)} {f : Addr} {args : Args} {binds : List (Str × Value)}
    (B : Below A₀ base outer h₀) (F : Fr h₀ L s.heap m) (X₀ : K.In h₀) (T : Top p loose mean mg mb h₀) (hA : A.frames = some (env :: outer)) (hf : env.frame = some L) (hke : env.scope.kind = .function)
    (ho : K.lookup f = some ⟨oc, od, .func (fnOf name qual params body scope dV kV doc pm an cdv ct), osl⟩) (hcd : codeIn K cdv qual = true) (hroom : A.depth < recursionLimit)
    (hbind : BindsTo s (fnOf name qual params body scope dV kV doc pm an cdv ct) args binds) (hkind : (binds.all fun y => scope.names.lookup y.1 == some .local || scope.names.lookup y.1 == some .cell) = true)
    (hnd : ((cellsFrom 0 scope.names []).map (·.1)).Nodup)
    (h : ∀ g L' h₁ tk cells, s.heap.StaysIn g → Fr h₀ L g m → Fr g L' h₁ (bindL (envOfC qual scope L' f cdv).kindOf binds fun _ => none) → News g L' h₁ cells →
      CellsAre (bindC (envOfC qual scope L' f cdv).kindOf binds fun _ => none) (cellsFrom (L' + 1) scope.names []) cells → Below A base (env :: outer) g → K.In g → Top p loose mean mg mb g →
      wpAny (model prog w) (A.deeper (envOfC qual scope L' f cdv)) (execs body (envOfC qual scope L' f cdv))
        (fun fl s' => LeaveK h₀ L m g R (match fl with | .ret v => v | _ => .none) s')
        (fun e s' => wpAny (model prog w) (A.deeper (envOfC qual scope L' f cdv)) (leaving (envOfC qual scope L' f cdv) e) (fun _ s'' => R (.error e) s'') (fun e' s'' => R (.error e') s'') s')
        { s with heap := h₁, toks := tk })
    (hco : scope.isCoroutine = false) (hgen : scope.isGenerator = false) (hk : scope.kind = .function) : codeAny (model prog w) A (.call (.ref f) args) R s := by
  have X := X₀.keeps F.keep
  obtain ⟨FG, BG, st, lv⟩ := groundX (R := R) B F (News.nil (h₀ := h₀) (L := L) (h := s.heap)) hA hf hke
  refine codeAny_call_function hroom (X _ _ ho) rfl hco hgen rfl (codeRec_of X hcd) (hbind _ _ _ _ ?_)
  refine wpAny_newFunctionEnv_cells (binds := binds) hk (kindsX hkind _) fun env' he s' x => ?_
  subst he
  refine ⟨(T.nolimit.keeps F.keep).keeps x.toInCall.keep, codeAny_func ?_⟩
  obtain ⟨h₁, tk, rfl, _⟩ := x.done
  have hk₁ := x.toInCall.keep
  obtain ⟨cells, NC, Y⟩ := Cl.news (h₀ := s.heap) (Nat.le_refl _) fun n c hm => ⟨x.cell n c (lookup_of_mem_nodup (cellsFrom_names scope.names 0 (s.heap.objs.size + 1) [] [] rfl ▸ hnd) hm), x.above n c hm⟩
  refine wpAny_mono (h s.heap s.heap.objs.size h₁ tk cells (fun _ _ e => e) FG ⟨x.toInCall.ns, hk₁, Nat.le_refl _⟩ NC Y BG X (T.keeps F.keep)) (fun fl s' hl => lv _ _ hl) fun _ _ y => y
end


/-- one sign of the ten -/
def LwEl (news : List (Addr × Obj)) (y : Value) (news' : List (Addr × Obj)) : Prop := (∃ c t, y = .str (S [c]) t ∧ c ∈ ([97, 34, 92, 44, 59, 61, 32, 9, 66, 233] : List Nat)) ∧ news' = news
section
variable {prog : Program} {w : World} {A : Around} {h₀ : Heap} {L : Addr} {m : Str → Option Value} {env : Env} {elt : PySem.Expr} {x : Str} {scope : Scope} {cl : List (Str × Addr)} {s : Shared} {Fin : List Value → List (Addr × Obj) → Prop} {news : List (Addr × Obj)}
theorem rest_lw {n : Nat}
    (turn : ∀ (k : Nat) u I oI C oC D m₂ ys h tk (E' : Value → Shared → Prop), k ≤ 4 → NsObj oC m₂ → m₂ x = some (.int (0 + (k : Int)) u) → Fr h₀ L h m → News h₀ L h ((I, oI) :: (C, oC) :: (D, lst ys) :: news) → Off3 I C D news → ((@Ne Nat I C) ∧ (@Ne Nat I D) ∧ (@Ne Nat C D)) →
      wpAny (model prog w) A (eval elt (compEnvC scope cl C env)) (CompEnd h₀ L m { s with heap := h, toks := tk } I oI C oC D (lst ys) (fun _ => True) (fun y news' => LwEl news y news')) E' { s with heap := h, toks := tk })
    (hn5 : n ≤ 5) (fin : ∀ (ys : List Value) (cs : List Nat), StrsAre ys (cs.map fun c => S [c]) → cs.length = n → (∀ c ∈ cs, c ∈ ([97, 34, 92, 44, 59, 61, 32, 9, 66, 233] : List Nat)) → Fin ys news) :
    CompRest prog w A h₀ L m env elt x scope cl s (fun _ => True) (fun i v => ∃ t, v = .int (0 + (i : Int)) t) Fin n 0 [] news := by
  have key : ∀ (j i : Nat) (ys : List Value) (cs : List Nat), i + j = n → cs.length = i → StrsAre ys (cs.map fun c => S [c]) → (∀ c ∈ cs, c ∈ ([97, 34, 92, 44, 59, 61, 32, 9, 66, 233] : List Nat)) → CompRest prog w A h₀ L m env elt x scope cl s (fun _ => True) (fun i v => ∃ t, v = .int (0 + (i : Int)) t) Fin j i ys news := by
    intro j
    induction j with
    | zero =>
      intro i ys cs hi hc hy hm
      exact CompRest.zero (fin ys cs hy (by omega) hm)
    | succ j ih =>
      intro i ys cs hi hc hy hm
      refine CompRest.succ ?_
      intro v I oI C oC D m₂ h tk E' hv hC hx F N off ne
      obtain ⟨u, rfl⟩ := hv
      refine wpAny_mono (turn i u I oI C oC D m₂ ys h tk E' (by omega) hC hx F N off ne) (fun y s₃ hr => ?_) fun _ _ e => e
      obtain ⟨h', tk', nw, e, F', N', off', hS', ⟨c, t, rfl, hcm⟩, hn⟩ := hr
      rw [hn] at N' off'
      refine ⟨h', tk', news, e, F', N', off', trivial, ih (i + 1) _ (cs ++ [c]) (by omega) (by simp [hc]) ?_ ?_⟩
      · rw [List.map_append]; exact hy.append' (.cons _ t .nil)
      · intro d hd
        rcases List.mem_append.mp hd with hd | hd
        · exact hm d hd
        · rw [List.mem_singleton.mp hd]; exact hcm
  exact key n 0 [] [] (by omega) rfl .nil (by simp)
end
section
local macro_rules | `(tactic| walk_at "my enterP") => `(tactic| k_dflt (refine' enter_plain ?k1 ?k2 ?k3 ?k5 ?kA ?kF ?kK ?k6 ?k7 ?k8 ?k9 ?kB ?kL ?_ ?c2 ?c3 ?c4 ?c5; (case kA => exact rfl); (case kF => exact rfl); (case kK => assumption); (case k1 => k_asm); (case k2 => k_asm); (case k3 => k_asm); (case k5 => k_asm); (case k6 => k_is); (case k7 => k_is); (case k8 => ktr_room); (case k9 => exact BindsTo.of_eq rfl); (case c5 => decide); (case kB => exact locs rfl); (case kL => exact ⟨_, _, rfl⟩); (case c2 => exact rfl); (case c3 => exact rfl); (case c4 => exact rfl); k_whole; intro g' L' h' tk' htk' hst' FG' F' N' B' X' T'; (try dsimp only); (try k_lift B'); (try k_fold)))
local macro_rules | `(tactic| walk_at "execs cons") => `(tactic| (k_here; (with_reducible refine execs_cons_tk (by first | assumption | (dsimp only; omega)) ?_); try dsimp only))
local macro_rules | `(tactic| walk_at "execs nil") => `(tactic| (k_here; (with_reducible refine wpAny_execs_nil ?_); try dsimp only))
local macro_rules | `(tactic| walk_at "my steps") => `(tactic| repeat' (first | (k_unfold; (try dsimp only)) | walk1 | (dsimp only; walk1) | (leave1; (try dsimp only)) | fail "no step"))
local macro_rules | `(tactic| walk_at "LeaveK") => `(tactic| (k_here; k_dflt (refine' leaveK_ ?k1 ?k2 ?_; (case k1 => k_asm); (case k2 => k_asm)); intro kF kN; (try dsimp only)))

local macro_rules | `(tactic| walk_at "my enterC") => `(tactic| k_dflt (refine' enter_cells0 ?k1 ?k2 ?k3 ?k5 ?kA ?kF ?kK ?k6 ?k7 ?k8 ?k9 ?kB ?kD ?_ ?c2 ?c3 ?c4; (case kA => exact rfl); (case kF => exact rfl); (case kK => assumption); (case k1 => k_asm); (case k2 => k_asm); (case k3 => k_asm); (case k5 => k_asm); (case k6 => k_is); (case k7 => k_is); (case k8 => ktr_room); (case k9 => first | exact BindsTo.of_eq rfl | exact binds_K (by k_in) rfl (by k_is) rfl rfl rfl | fail "k_enter: no rule for these arguments"); (case kB => exact rfl); (case kD => decide +kernel); (case c2 => exact rfl); (case c3 => exact rfl); (case c4 => exact rfl); k_whole; intro g' L' h' tk' cells' hsg' FG' F' N' Y' B' X' T'; k_cells Y'; (try dsimp only); (try k_lift B'); (try k_fold)))
theorem fillK11 : PySem.Challenge.rw_vm0023_01 = PySem.Challenge.rw_vm0023_01 ∧ hd.heap_39 = hd.heap_39 := by
  k_fill
  exact ⟨rfl, rfl⟩
def signsL : List Nat := [97, 34, 92, 44, 59, 61, 32, 9, 66, 233]
def GoodW (w : List Nat) : Prop := w.length ≤ 5 ∧ ∀ c ∈ w, c ∈ signsL
local macro_rules | `(tactic| walk_at "eval ListComp") => `(tactic| (k_here; k_dflt ((with_reducible refine' LCg.ListComp_U ?kF ?k1 ?k2 ?k3 ?k4 ?k5 ?_ ?ks); (case kF => k_asm); (case k1 => with_unfolding_all rfl); (case k2 => decide); (case k3 => rfl); (case k4 => decide); (case k5 => rfl); (case ks => intro _; rfl))))
theorem mod6 (n : Int) : ∃ k : Nat, k ≤ 5 ∧ n.fmod 6 = (k : Int) := by
  have h1 : n.fmod 6 = n % 6 := Int.fmod_eq_emod_of_nonneg n (by decide)
  rw [h1]
  exact ⟨(n % 6).toNat, by omega, by omega⟩
theorem range6 (n : Int) : Builtin.Range.small 0 (n.fmod 6) 1 = true ∧ Builtin.Range.rangeSize 0 (n.fmod 6) 1 = (((n.fmod 6).toNat : Nat) : Int) ∧ (n.fmod 6).toNat ≤ 5 := by
  obtain ⟨k, hk, e⟩ := mod6 n
  rw [e]
  refine ⟨?_, ?_, by omega⟩
  · have : k = 0 ∨ k = 1 ∨ k = 2 ∨ k = 3 ∨ k = 4 ∨ k = 5 := by omega
    rcases this with rfl | rfl | rfl | rfl | rfl | rfl <;> decide +kernel
  · have : k = 0 ∨ k = 1 ∨ k = 2 ∨ k = 3 ∨ k = 4 ∨ k = 5 := by omega
    rcases this with rfl | rfl | rfl | rfl | rfl | rfl <;> decide +kernel
local macro_rules | `(tactic| walk_at "CompSrc") => `(tactic| (k_here; k_dflt (refine' CompSrc.range (by rfl) (by k_asm) (by k_asm) (by assumption) (range6 _).1 (range6 _).2.1 (Nat.le_trans (range6 _).2.2 (by decide)) ?_; intro g'; refine' rest_lw (fun k9' u9' I' oI' C' oC' D' m' ys' h' tk' E' hk9' hC' hx' F' N' off' ne' => ?_) (range6 _).2.2 ?fin; (case' fin => (intro ys9' cs9' hys9' hlen9' hcs9'; (first | unfold FinE | unfold FinA); intro D9' h9' tk9' F9' N9' o9')); (try simp only [LCg.Off3, and_true] at off'))))
theorem pow_W {prog : Program} {w : World} {A : Around} {E : Value → Shared → Prop} {s : Shared} {k : Nat} {t u : Tok} {Q : Value → Shared → Prop} (hk : k ≤ 4) (h : ∀ (b : Int) t' tk', b ≠ 0 → b.natAbs.log2 < 9000 → Q (.int b t') { s with toks := tk' }) : wpAny (model prog w) A (binaryOp .Pow (.int 10 t) (.int (0 + (k : Int)) u)) Q E s :=
  pow_int_small (by omega) (by omega) (by decide) (h _ _ _ (by
    have e : (0 + (k : Int)).toNat = k := by omega
    rw [e]
    exact Int.pow_ne_zero (by decide)) (by
    have e : (0 + (k : Int)).toNat = k := by omega
    rw [e]
    have : k = 0 ∨ k = 1 ∨ k = 2 ∨ k = 3 ∨ k = 4 := by omega
    rcases this with rfl | rfl | rfl | rfl | rfl <;> decide +kernel))
local macro_rules | `(tactic| walk_at "binaryOp Pow int int") => `(tactic| (k_here; k_dflt (refine pow_W (by assumption) ?_); intro b8' t8' tk8' hb8' hg8'))
theorem flat_ones : ∀ cs : List Nat, joinL [] (cs.map fun c => [c]) = cs := fun cs => by
  rw [joinL_nil]
  induction cs with
  | nil => rfl
  | cons c r ih => rw [List.map_cons, List.flatten_cons, ih]; rfl
theorem join_signsL {prog : Program} {w : World} {A : Around} {E : Value → Shared → Prop} {s : Shared} {D : Addr} {ys : List Value} {cs : List Nat} {t : Tok} {n : Nat} {g : Heap} {L : Addr} {r : List (Addr × Obj)} {Q : Value → Shared → Prop} (N : News g L s.heap ((D, lst ys) :: r)) (hi : StrsAre ys (cs.map fun c => S [c])) (hn : cs.length = n) (hn5 : n ≤ 5)
    (h : ∀ t' k, Q (.str (S cs) t') { s with toks := k }) : wpAny (model prog w) A (call (.builtin "str.join") [.str (Str.ofString "") t, .ref D]) Q E s := by
  have e : (cs.map fun c => S [c]) = (cs.map fun c => [c]).map S := by rw [List.map_map]; rfl
  have e2 := flat_ones cs
  refine join_call (sl := []) (B := 1) (show Str.ofString "" = S [] by rfl) (by decide) N (e ▸ hi) (fun wd hw => ?_) ?_ fun t' k => by rw [e2]; exact h t' k
  · obtain ⟨c, _, rfl⟩ := List.mem_map.mp hw; exact Nat.le_refl _
  · rw [List.length_map]; omega
local macro_rules | `(tactic| walk_at "call builtin:str.join") => `(tactic| (k_here; (try dsimp only [List.cons_append, List.nil_append]); k_dflt (refine' join_signsL (by assumption) (by assumption) (by assumption) (range6 _).2.2 ?_); intro t8' k8'))
theorem lws3 {a0 a1 a2 p : Addr × Obj} {r : List (Addr × Obj)} : p ∈ a0 :: a1 :: a2 :: p :: r := by simp
local macro_rules | `(tactic| walk_at "binaryOp FloorDiv int int") => `(tactic| (k_here; k_dflt (refine floordiv_int (by assumption) ?_ (Or.inl (PyProof.noPylong_of_log2 (by assumption))))))
theorem sign_W {prog : Program} {w : World} {A : Around} {E : Value → Shared → Prop} {s : Shared} {value slice : PySem.Expr} {Sg : Addr} {k : Nat} {X : Int} {u : Tok} {x0 x1 x2 x3 x4 x5 x6 x7 x8 x9 : Str} {t0 t1 t2 t3 t4 t5 t6 t7 t8 t9 : Tok} {Q : Value → Shared → Prop} (hl : s.heap.get? Sg = some (listOf #[.str x0 t0, .str x1 t1, .str x2 t2, .str x3 t3, .str x4 t4, .str x5 t5, .str x6 t6, .str x7 t7, .str x8 t8, .str x9 t9] k)) (hx : [x0, x1, x2, x3, x4, x5, x6, x7, x8, x9] = [S [97], S [34], S [92], S [44], S [59], S [61], S [32], S [9], S [66], S [233]])
    (h : ∀ c t, c ∈ ([97, 34, 92, 44, 59, 61, 32, 9, 66, 233] : List Nat) → Q (.str (S [c]) t) s)
    (hs : subscripted slice false (.ref Sg) (.int (X.fmod 10) u) = operate [.ref Sg, .int (X.fmod 10) u] (getItem (.ref Sg) (.int (X.fmod 10) u)) := by with_unfolding_all rfl) (hg : ∀ r, letTemporaryGo value (.ref Sg) r = pure () := by intro _; with_unfolding_all rfl) :
    wpAny (model prog w) A (subscriptTail value slice (.ref Sg) (.int (X.fmod 10) u)) Q E s := by
  have e1 : X.fmod 10 = X % 10 := Int.fmod_eq_emod_of_nonneg X (by decide)
  obtain ⟨i, hi, e⟩ : ∃ i : Nat, i < 10 ∧ X.fmod 10 = (i : Int) := ⟨(X % 10).toNat, by omega, by rw [e1]; omega⟩
  simp only [List.cons.injEq, and_true] at hx
  obtain ⟨rfl, rfl, rfl, rfl, rfl, rfl, rfl, rfl, rfl, rfl⟩ := hx
  have hits : ∃ c t, (#[Value.str (S [97]) t0, Value.str (S [34]) t1, Value.str (S [92]) t2, Value.str (S [44]) t3, Value.str (S [59]) t4, Value.str (S [61]) t5, Value.str (S [32]) t6, Value.str (S [9]) t7, Value.str (S [66]) t8, Value.str (S [233]) t9] : Array Value)[i]? = some (.str (S [c]) t) ∧ c ∈ ([97, 34, 92, 44, 59, 61, 32, 9, 66, 233] : List Nat) := by
    have : i = 0 ∨ i = 1 ∨ i = 2 ∨ i = 3 ∨ i = 4 ∨ i = 5 ∨ i = 6 ∨ i = 7 ∨ i = 8 ∨ i = 9 := by omega
    rcases this with rfl | rfl | rfl | rfl | rfl | rfl | rfl | rfl | rfl | rfl <;> exact ⟨_, _, rfl, by decide⟩
  obtain ⟨c, t, hc, hm⟩ := hits
  exact item_list ⟨_, hl, rfl, _, rfl⟩ (by rw [e]; omega) (by rw [e]; omega) (by rw [e]; simpa using hc) (h c t hm) hs hg
theorem signs_eq : [Str.ofString "a", Str.ofString "\"", Str.ofString "\\", Str.ofString ",", Str.ofString ";", Str.ofString "=", Str.ofString " ", Str.ofString "\t", Str.ofString "B", Str.ofString "é"] = [S [97], S [34], S [92], S [44], S [59], S [61], S [32], S [9], S [66], S [233]] := by decide +kernel
local macro_rules | `(tactic| walk_at "subscriptTail Name BinOp ref int") => `(tactic| (k_here; k_dflt (refine sign_W (News.get (by assumption) (by exact lws3)) signs_eq ?_); intro c8' t8' hc8'))
local macro_rules | `(tactic| walk_at "CompEnd") => `(tactic| (k_here; k_dflt (refine' CompEnd.intro ?kF ?kN _ (fun p hp => hp) ?kO trivial ?_; (case kF => k_asm); (case kN => k_asm); (case kO => first | assumption | (simp only [LCg.Off3, and_true]; assumption) | trivial))))
local macro_rules | `(tactic| walk_at "LwEl") => `(tactic| exact ⟨⟨_, _, rfl, by assumption⟩, rfl⟩)
set_option maxRecDepth 100000 in
set_option maxHeartbeats 8000000 in
theorem con_lword (w : World) (mean : ExcName → Option Value) (mg mb : Str → Option Value) (n : Int) (tn : Tok) :
    Con w mean mg mb 1 (fun _ => True) 110 [.int n tn] [] (fun _ _ r => ∃ wd t, r = .str (S wd) t ∧ GoodW wd) := by
  intro dp un gd cn cs a' ccd cl outer A₀ base h₀ L m s Q E B F X T hp hkk hdp hu ret
  refine wpAny_call ?_
  walk_at "my enterC"
  walk_at "my steps"
  exact ret _ _ _ (stays_end (by assumption) (by assumption)) ⟨_, _, rfl, by have := (range6 n).2.2; omega, by assumption⟩
end
end Mine
end
section
open PySem PySem.W PyProof.Rows PySem.Calls PySem.Spec PySem.Builtin PySem.Builtin.Str
namespace Mine
open RE
-- quoting there and back
theorem esc_nil : esc [] = [] := by rw [esc_eq]; rfl
theorem esc_cons (c : Nat) (r : List Nat) : esc (c :: r) = escC c ++ esc r := by rw [esc_eq, esc_eq, List.flatMap_cons]
theorem unsl_other {c : Nat} {X : List Nat} (h : c ≠ 92) : unsl (c :: X) = c :: unsl X := by
  cases X with
  | nil => simp [unsl]
  | cons d r => rw [unsl, if_neg (fun e => h e.1)]
theorem unsl_esc : ∀ w : List Nat, unsl (esc w) = w
  | [] => by rw [esc_nil]; rfl
  | c :: r => by
    have ih := unsl_esc r
    rw [esc_cons]
    unfold escC
    split
    · rename_i h; subst h
      show unsl (92 :: 92 :: esc r) = _
      rw [unsl, if_pos ⟨rfl, by decide⟩, ih]
    · split
      · rename_i h; subst h
        show unsl (92 :: 34 :: esc r) = _
        rw [unsl, if_pos ⟨rfl, by decide⟩, ih]
      · rename_i h _
        show unsl (c :: esc r) = _
        rw [unsl_other h, ih]
theorem unq_quoteF (w : List Nat) : unq (quoteF w) = w := by
  have h1 : (quoteF w).length = (esc w).length + 2 := by simp [quoteF]
  have h2 : (quoteF w).drop ((quoteF w).length - 1) = [34] := by
    rw [h1]
    show (34 :: (esc w ++ [34])).drop ((esc w).length + 1) = [34]
    rw [List.drop_succ_cons, List.drop_left' rfl]
  unfold unq
  rw [if_pos ⟨by omega, rfl, h2⟩, h1]
  show unsl ((esc w ++ [34]).take ((esc w).length + 2 - 2)) = w
  rw [Nat.add_sub_cancel, List.take_left' rfl, unsl_esc]
theorem tok34 : 34 ∉ tokS := by decide +kernel
theorem tok44 : 44 ∉ tokS := by decide +kernel
theorem tok59 : 59 ∉ tokS := by decide +kernel
theorem tok61 : 61 ∉ tokS := by decide +kernel
theorem tok32 : 32 ∉ tokS := by decide +kernel
theorem tok9 : 9 ∉ tokS := by decide +kernel
theorem tokC_of : ∀ c ∈ tokS, tokC c = true := by decide +kernel
theorem isTok_mem {w : List Nat} (h : isTok w = true) : w ≠ [] ∧ ∀ c ∈ w, c ∈ tokS := by
  unfold isTok at h
  rw [Bool.and_eq_true, List.all_eq_true] at h
  refine ⟨by rintro rfl; simp at h, fun c hc => by simpa using h.2 c hc⟩
theorem tok_free {w : List Nat} {c : Nat} (h : isTok w = true) (hc : c ∉ tokS) : c ∉ w := fun hm => hc ((isTok_mem h).2 c hm)
theorem unq_other {w : List Nat} (h : w.head? ≠ some 34) : unq w = w := by
  unfold unq
  rw [if_neg]
  rintro ⟨_, h1, _⟩
  cases w with
  | nil => simp at h1
  | cons c r => simp at h1; exact h (by simp [h1])
theorem unq_quote (w : List Nat) : unq (quote w) = w := by
  unfold quote
  split
  · rename_i h
    refine unq_other fun e => ?_
    exact tok_free h tok34 (List.mem_of_mem_head? (by rw [e]; rfl))
  · exact unq_quoteF w
-- the reading machine
def plF (st : PS) (v : List Nat) : PS := (v.map fun c : Nat => (c : Int)).foldl plStep st
theorem plF_app (st : PS) (a b : List Nat) : plF st (a ++ b) = plF (plF st a) b := by simp [plF, List.foldl_append]
theorem plF_cons (st : PS) (c : Nat) (b : List Nat) : plF st (c :: b) = plF (plStep st (c : Int)) b := rfl
theorem plRun_S (v : List Nat) : plRun (KStt.codes (S v)) = plF ([], Str.empty, false, false) v := by
  unfold plRun KStt.codes plF; rw [cps_S]
theorem ic (c : Nat) (k : Nat) : ((c : Int) = (k : Int)) ↔ c = k := Int.ofNat_inj
theorem S_snoc (item : Str) (c : Nat) (r : List Nat) : item ++ S [c] ++ S r = item ++ S (c :: r) := by
  have : S [c] ++ S r = S (c :: r) := S_app [c] r
  rw [← this]
  exact Str.ext' (by simp only [Str.cps_append, Array.append_assoc])
theorem S_nil' (item : Str) : item ++ S [] = item := Str.ext' (by rw [Str.cps_append]; simp [S])
def PlainQ (v : List Nat) : Prop := ∀ (items : List Str) (item : Str), plF (items, item, false, false) v = (items, item ++ S v, false, false)
theorem plain_chars : ∀ {v : List Nat}, (∀ c ∈ v, c ≠ 34 ∧ c ≠ 44) → PlainQ v
  | [], _ => fun items item => by rw [S_nil']; rfl
  | c :: r, h => fun items item => by
    have h1 := h c (.head _)
    have ih := plain_chars (fun d hd => h d (.tail _ hd)) items (item ++ S [c])
    have e34 : ¬ (c : Int) = 34 := fun e => h1.1 ((ic c 34).mp e)
    have e44 : ¬ (c : Int) = 44 := fun e => h1.2 ((ic c 44).mp e)
    rw [plF_cons]
    have : plStep (items, item, false, false) (c : Int) = (items, item ++ S [c], false, false) := by
      simp [plStep, e34, e44]
    rw [this, ih, S_snoc]
theorem PlainQ.app {a b : List Nat} (ha : PlainQ a) (hb : PlainQ b) : PlainQ (a ++ b) := fun items item => by
  rw [plF_app, ha, hb, ← S_app]
  congr 2
  exact Str.ext' (by simp only [Str.cps_append, Array.append_assoc])
theorem plF_in : ∀ (w : List Nat) (items : List Str) (item : Str), plF (items, item, false, true) (esc w) = (items, item ++ S (esc w), false, true)
  | [], items, item => by rw [esc_nil, S_nil']; rfl
  | c :: r, items, item => by
    rw [esc_cons, plF_app]
    have key : plF (items, item, false, true) (escC c) = (items, item ++ S (escC c), false, true) := by
      unfold escC
      split
      · have : S [92, 92] = S [92] ++ S [92] := (S_app [92] [92]).symm
        rw [this]
        show (items, item ++ S [92] ++ S [92], false, true) = _
        congr 2
      · split
        · have : S [92, 34] = S [92] ++ S [34] := (S_app [92] [34]).symm
          rw [this]
          show (items, item ++ S [92] ++ S [34], false, true) = _
          congr 2
        · rename_i h1 h2
          have e92 : ¬ (c : Int) = 92 := fun e => h1 ((ic c 92).mp e)
          have e34 : ¬ (c : Int) = 34 := fun e => h2 ((ic c 34).mp e)
          show plStep (items, item, false, true) (c : Int) = _
          simp [plStep, e92, e34]
    rw [key, plF_in r, ← S_app]
    congr 2
    exact Str.ext' (by simp only [Str.cps_append, Array.append_assoc])
theorem plain_quoteF (w : List Nat) : PlainQ (quoteF w) := fun items item => by
  have h1 : plF (items, item, false, false) [34] = (items, item ++ S [34], false, true) := by
    show plStep (items, item, false, false) ((34 : Nat) : Int) = _
    rfl
  have h2 : ∀ it : Str, plF (items, it, false, true) [34] = (items, it ++ S [34], false, false) := fun it => rfl
  show plF (items, item, false, false) ([34] ++ (esc w ++ [34])) = _
  rw [plF_app, h1, plF_app, plF_in, h2]
  have : S (quoteF w) = S [34] ++ (S (esc w) ++ S [34]) := by rw [S_app, S_app]; rfl
  rw [this]
  congr 2
  exact Str.ext' (by simp only [Str.cps_append, Array.append_assoc])
theorem plain_quote (w : List Nat) : PlainQ (quote w) := by
  unfold quote
  split
  · rename_i h
    exact plain_chars fun c hc => ⟨fun e => tok_free h tok34 (e ▸ hc), fun e => tok_free h tok44 (e ▸ hc)⟩
  · exact plain_quoteF w
theorem plF_comma (items : List Str) (item : Str) : plF (items, item, false, false) [44] = (items ++ [item], Str.empty, false, false) := rfl
theorem empty_app (x : Str) : Str.empty ++ x = x := Str.ext' (by rw [Str.cps_append]; simp [Str.empty])
theorem pl_join : ∀ (ts : List (List Nat)), ts ≠ [] → (∀ t ∈ ts, PlainQ t) → ∀ items : List Str, ∃ ws it, plF (items, Str.empty, false, false) (joinL [44] ts) = (ws, it, false, false) ∧ ws ++ [it] = items ++ ts.map S
  | [], h, _, _ => absurd rfl h
  | [t], _, h, items => ⟨items, S t, by show plF _ t = _; rw [h t (.head _), empty_app], rfl⟩
  | t :: u :: r, _, h, items => by
    obtain ⟨ws, it, h1, h2⟩ := pl_join (u :: r) (by simp) (fun x hx => h x (.tail _ hx)) (items ++ [S t])
    refine ⟨ws, it, ?_, by rw [h2]; simp⟩
    show plF _ (t ++ [44] ++ joinL [44] (u :: r)) = _
    rw [plF_app, plF_app, h t (.head _), plF_comma, empty_app, h1]
theorem parseL_join {ts : List (List Nat)} (hn : ts ≠ []) (h : ∀ t ∈ ts, PlainQ t) : parseL (joinL [44] ts) = ((ts.map strip2).filter fun l => !l.isEmpty).map unq := by
  obtain ⟨ws, it, h1, h2⟩ := pl_join ts hn h []
  have h3 : plRun (KStt.codes (S (joinL [44] ts))) = (ws, it, false, false) := by rw [plRun_S, h1]
  rw [parseL_yes h3 rfl, h2, List.nil_append]
  congr 3
  unfold unS
  rw [List.map_map]
  conv => rhs; rw [← List.map_id ts]
  exact List.map_congr_left fun t _ => cps_S t
theorem join_sp (pre : List Nat) : ∀ (q : List Nat) (qs : List (List Nat)), joinL ([44] ++ pre) (q :: qs) = joinL [44] (q :: qs.map (pre ++ ·))
  | q, [] => rfl
  | q, u :: r => by
    have ih := join_sp pre u r
    show q ++ ([44] ++ pre) ++ joinL ([44] ++ pre) (u :: r) = q ++ [44] ++ joinL [44] ((pre ++ u) :: r.map (pre ++ ·))
    rw [ih]
    cases r with
    | nil => simp [joinL]
    | cons x y => simp [joinL]
-- blanks stripped
def Solid (q : List Nat) : Prop := q ≠ [] ∧ (∀ c, q.head? = some c → bl c = false) ∧ (∀ c, q.getLast? = some c → bl c = false)
theorem drop_solid {q : List Nat} (h : ∀ c, q.head? = some c → bl c = false) : q.dropWhile bl = q := by
  cases q with
  | nil => rfl
  | cons c r => rw [List.dropWhile_cons_of_neg (by rw [h c rfl]; simp)]
theorem drop_blank : ∀ {a : List Nat} (q : List Nat), (∀ c ∈ a, bl c = true) → (a ++ q).dropWhile bl = q.dropWhile bl
  | [], _, _ => rfl
  | c :: r, q, h => by
    rw [List.cons_append, List.dropWhile_cons_of_pos (h c (.head _))]
    exact drop_blank q fun d hd => h d (.tail _ hd)
theorem strip_solid {a b q : List Nat} (hq : Solid q) (ha : ∀ c ∈ a, bl c = true) (hb : ∀ c ∈ b, bl c = true) : strip2 (a ++ (q ++ b)) = q := by
  obtain ⟨h1, h2, h3⟩ := hq
  unfold strip2
  rw [drop_blank _ ha, drop_solid (q := q ++ b), List.reverse_append, drop_blank _ (fun c hc => hb c (List.mem_reverse.mp hc)), drop_solid, List.reverse_reverse]
  · intro c hc; rw [List.head?_reverse] at hc; exact h3 c hc
  · intro c hc
    cases q with
    | nil => exact absurd rfl h1
    | cons d r => exact h2 c hc
theorem strip_self {q : List Nat} (hq : Solid q) : strip2 q = q := by
  have := strip_solid (a := []) (b := []) hq (by simp) (by simp)
  simpa using this
theorem strip_pre {a q : List Nat} (hq : Solid q) (ha : ∀ c ∈ a, bl c = true) : strip2 (a ++ q) = q := by
  have := strip_solid (b := []) hq ha (by simp)
  simpa using this
theorem strip_blank {a : List Nat} (ha : ∀ c ∈ a, bl c = true) : strip2 a = [] := by
  have := drop_blank (a := a) [] ha
  rw [List.append_nil] at this
  unfold strip2
  rw [this]; rfl
theorem solid_chars {q : List Nat} (h : q ≠ []) (h1 : ∀ c ∈ q, bl c = false) : Solid q := ⟨h, fun c hc => h1 c (List.mem_of_mem_head? hc), fun c hc => h1 c (List.mem_of_getLast? hc)⟩
theorem solid_quoteF (w : List Nat) : Solid (quoteF w) := by
  refine ⟨by simp [quoteF], fun c hc => ?_, fun c hc => ?_⟩
  · cases hc; rfl
  · have : quoteF w = (34 :: esc w) ++ [34] := rfl
    rw [this, List.getLast?_append] at hc
    cases hc; rfl
theorem tok_bl {w : List Nat} (h : isTok w = true) : ∀ c ∈ w, bl c = false := fun c hc => by
  have h1 : c ≠ 32 := fun e => tok_free h tok32 (e ▸ hc)
  have h2 : c ≠ 9 := fun e => tok_free h tok9 (e ▸ hc)
  simp [bl, h1, h2]
theorem solid_quote (w : List Nat) : Solid (quote w) := by
  unfold quote
  split
  · rename_i h
    exact solid_chars (isTok_mem h).1 (tok_bl h)
  · exact solid_quoteF w
/-- the dumped words are read back -/
theorem law_list (ws : List (List Nat)) : parseL (joinL [44, 32] (ws.map quote)) = ws := by
  cases ws with
  | nil => decide +kernel
  | cons w r =>
    show parseL (joinL ([44] ++ [32]) (quote w :: r.map quote)) = _
    rw [join_sp, parseL_join (by simp)]
    · have e1 : ((quote w :: (r.map quote).map ([32] ++ ·)).map strip2) = (w :: r).map quote := by
        simp only [List.map_cons, List.map_map]
        congr 1
        · exact strip_self (solid_quote w)
        · exact List.map_congr_left fun x _ => strip_pre (solid_quote x) (by simp [bl])
      rw [e1, List.filter_eq_self.mpr, List.map_map]
      · conv => rhs; rw [← List.map_id (w :: r)]
        exact List.map_congr_left fun x _ => unq_quote x
      · intro q hq
        obtain ⟨x, _, rfl⟩ := List.mem_map.mp hq
        have := (solid_quote x).1
        cases h : quote x with
        | nil => exact absurd h this
        | cons _ _ => rfl
    · intro t ht
      rcases List.mem_cons.mp ht with rfl | ht
      · exact plain_quote w
      · obtain ⟨q, hq, rfl⟩ := List.mem_map.mp ht
        obtain ⟨x, _, rfl⟩ := List.mem_map.mp hq
        exact (plain_chars (by decide)).app (plain_quote x)
end Mine
end
section
open PySem PySem.W PyProof.Rows PySem.Calls PySem.Spec PySem.Builtin PySem.Builtin.Str
namespace Mine
open RE
theorem parseL_solid (qs : List (List Nat)) (h : ∀ q ∈ qs, PlainQ q ∧ Solid q) : parseL (joinL [44, 32] qs) = qs.map unq := by
  cases qs with
  | nil => decide +kernel
  | cons w r =>
    show parseL (joinL ([44] ++ [32]) (w :: r)) = _
    rw [join_sp, parseL_join (by simp)]
    · have e1 : ((w :: r.map ([32] ++ ·)).map strip2) = w :: r := by
        simp only [List.map_cons, List.map_map]
        congr 1
        · exact strip_self (h w (.head _)).2
        · conv => rhs; rw [← List.map_id r]
          exact List.map_congr_left fun x hx => strip_pre (h x (.tail _ hx)).2 (by simp [bl])
      rw [e1, List.filter_eq_self.mpr]
      intro q hq
      have := (h q hq).2.1
      cases hc : q with
      | nil => exact absurd hc this
      | cons _ _ => rfl
    · intro t ht
      rcases List.mem_cons.mp ht with rfl | ht
      · exact (h _ (.head _)).1
      · obtain ⟨q, hq, rfl⟩ := List.mem_map.mp ht
        exact (plain_chars (by decide)).app (h q (.tail _ hq)).1
/-- rows under the keys key0 to key3, all unlike -/
def TabRows (rows : List RowL) : Prop := (∀ r ∈ rows, ∃ j, j < 4 ∧ r.1 = keyN j) ∧ (rows.map (·.1)).Nodup
theorem put_new {acc : List RowL} {k : List Nat} {v : Option (List Nat)} (h : k ∉ acc.map (·.1)) : putR acc k v = acc ++ [(k, v)] := by
  unfold putR
  rw [if_neg]
  intro ha
  obtain ⟨r, hr, e⟩ := List.any_eq_true.mp ha
  exact h (List.mem_map.mpr ⟨r, hr, by simpa using e⟩)
theorem put_fold : ∀ (l acc : List RowL), ((acc ++ l).map (·.1)).Nodup → l.foldl (fun a r => putR a r.1 r.2) acc = acc ++ l
  | [], acc, _ => by simp
  | r :: l, acc, h => by
    have h1 : r.1 ∉ acc.map (·.1) := by
      rw [List.map_append, List.map_cons] at h
      have := (List.nodup_append.mp h).2.2
      intro hm
      exact this _ hm _ (List.mem_cons_self ..) rfl
    rw [List.foldl_cons, put_new h1]
    have e : (acc ++ [(r.1, r.2)]) ++ l = acc ++ r :: l := by simp
    rw [put_fold l _ (by rw [e]; exact h), e]
theorem key_cases {j : Nat} (h : j < 4) : j = 0 ∨ j = 1 ∨ j = 2 ∨ j = 3 := by omega
theorem key_solid {j : Nat} (h : j < 4) : Solid (keyN j) := by
  rcases key_cases h with rfl | rfl | rfl | rfl <;> exact solid_chars (by decide) (by decide)
theorem key_plain {j : Nat} (h : j < 4) : PlainQ (keyN j) := by
  rcases key_cases h with rfl | rfl | rfl | rfl <;> exact plain_chars (by decide)
theorem solid_app {a q : List Nat} (ha : a ≠ []) (h1 : ∀ c, a.head? = some c → bl c = false) (hq : Solid q) : Solid (a ++ q) := by
  obtain ⟨h2, _, h3⟩ := hq
  cases a with
  | nil => exact absurd rfl ha
  | cons d r =>
    refine ⟨by simp, fun c hc => h1 c hc, fun c hc => h3 c ?_⟩
    cases q with
    | nil => exact absurd rfl h2
    | cons x y => rw [List.getLast?_append] at hc; simpa using hc
def seg1 (r : RowL) : List Nat := match r.2 with
  | none => r.1
  | some x => r.1 ++ ([61] ++ quote x)
theorem segH_seg1 (rows : List RowL) : rows.flatMap segH = rows.map seg1 := by
  induction rows with
  | nil => rfl
  | cons r rs ih =>
    obtain ⟨k, o⟩ := r
    rw [List.flatMap_cons, ih, List.map_cons]
    cases o with
    | none => rfl
    | some x => show [k ++ [61] ++ quote x] ++ _ = _; rw [List.append_assoc]; rfl
theorem seg_solid {j : Nat} (h : j < 4) (o : Option (List Nat)) : Solid (seg1 (keyN j, o)) := by
  cases o with
  | none => exact key_solid h
  | some x => exact solid_app (key_solid h).1 (key_solid h).2.1 (solid_app (by simp) (by simp [bl]) (solid_quote x))
theorem seg_plain {j : Nat} (h : j < 4) (o : Option (List Nat)) : PlainQ (seg1 (keyN j, o)) := by
  cases o with
  | none => exact key_plain h
  | some x => exact (key_plain h).app ((plain_chars (by decide)).app (plain_quote x))
theorem seg_unq {j : Nat} (o : Option (List Nat)) : unq (seg1 (keyN j, o)) = seg1 (keyN j, o) := by
  refine unq_other ?_
  cases o <;> simp [seg1, keyN]
theorem pd_seg {j : Nat} (h : j < 4) (o : Option (List Nat)) (acc : List RowL) : pdStep acc (seg1 (keyN j, o)) = putR acc (keyN j) o := by
  cases o with
  | none =>
    have hb : bef 61 (keyN j) = keyN j := by rcases key_cases h with rfl | rfl | rfl | rfl <;> rfl
    have hn : 61 ∉ keyN j := by rcases key_cases h with rfl | rfl | rfl | rfl <;> decide
    show pdStep acc (keyN j) = _
    unfold pdStep
    rw [hb, strip_self (key_solid h), if_neg (key_solid h).1, if_neg hn]
  | some x =>
    have hb : bef 61 (keyN j ++ ([61] ++ quote x)) = keyN j := by rcases key_cases h with rfl | rfl | rfl | rfl <;> rfl
    have ha : aft 61 (keyN j ++ ([61] ++ quote x)) = quote x := by rcases key_cases h with rfl | rfl | rfl | rfl <;> rfl
    show pdStep acc (keyN j ++ ([61] ++ quote x)) = _
    unfold pdStep
    rw [hb, ha, strip_self (key_solid h), if_neg (key_solid h).1, if_pos (by simp), strip_self (solid_quote x), unq_quote]
theorem fold_map {α β γ : Type} (f : γ → β → γ) (g : α → β) (h : γ → α → γ) : ∀ (l : List α) (a : γ), (∀ x ∈ l, ∀ c, f c (g x) = h c x) → (l.map g).foldl f a = l.foldl h a
  | [], _, _ => rfl
  | x :: r, a, e => by
    rw [List.map_cons, List.foldl_cons, List.foldl_cons, e x (.head _), fold_map f g h r _ fun y hy => e y (.tail _ hy)]
/-- the dumped table is read back -/
theorem law_table {rows : List RowL} (h : TabRows rows) : parseD (joinL [44, 32] (rows.flatMap segH)) = rows := by
  have hk : ∀ r ∈ rows, ∃ j, j < 4 ∧ r = (keyN j, r.2) := fun r hr => by
    obtain ⟨j, hj, e⟩ := h.1 r hr
    exact ⟨j, hj, by rw [← e]⟩
  unfold parseD
  rw [segH_seg1, parseL_solid, List.map_map]
  · have e : rows.map (unq ∘ seg1) = rows.map seg1 := List.map_congr_left fun r hr => by
      obtain ⟨j, hj, e⟩ := hk r hr
      show unq (seg1 r) = _
      rw [e]; exact seg_unq _
    rw [e, fold_map pdStep seg1 (fun a r => putR a r.1 r.2) rows []]
    · exact put_fold rows [] (by simpa using h.2)
    · intro r hr c
      obtain ⟨j, hj, e⟩ := hk r hr
      rw [e]; exact pd_seg hj _ c
  · intro q hq
    obtain ⟨r, hr, rfl⟩ := List.mem_map.mp hq
    obtain ⟨j, hj, e⟩ := hk r hr
    rw [e]; exact ⟨seg_plain hj _, seg_solid hj _⟩
-- options
theorem low_key {j : Nat} (h : j < 4) : lowL (keyN j) = keyN j := by
  rcases key_cases h with rfl | rfl | rfl | rfl <;> decide +kernel
theorem take_pre {f : Nat → Bool} {a b : List Nat} (ha : ∀ c ∈ a, f c = true) (hb : ∀ c, b.head? = some c → f c = false) : (a ++ b).takeWhile f = a := by
  induction a with
  | nil =>
    cases b with
    | nil => rfl
    | cons c r => rw [List.nil_append, List.takeWhile_cons_of_neg (by rw [hb c rfl]; simp)]
  | cons c r ih =>
    rw [List.cons_append, List.takeWhile_cons_of_pos (ha c (.head _)), ih fun d hd => ha d (.tail _ hd)]
theorem run_pre {f : Nat → Bool} {l a b : List Nat} {p : Nat} (hl : l.drop p = a ++ b) (ha : ∀ c ∈ a, f c = true) (hb : ∀ c, b.head? = some c → f c = false) : runN f l p = a.length := by
  unfold RE.runN; rw [hl, take_pre ha hb]
theorem get_pre {l a b : List Nat} {p : Nat} (hl : l.drop p = a ++ b) : l[p + a.length]? = b.head? := by
  have : l[p + a.length]? = (l.drop p)[a.length]? := by rw [List.getElem?_drop]
  rw [this, hl, List.getElem?_append_right (Nat.le_refl _), Nat.sub_self]
  cases b <;> rfl
theorem drop_pre {l a b : List Nat} {p : Nat} (hl : l.drop p = a ++ b) : l.drop (p + a.length) = b := by
  rw [← List.drop_drop, hl, List.drop_left' rfl]
theorem cut_pre {l a b : List Nat} {p : Nat} (hl : l.drop p = a ++ b) : cut l p (p + a.length) = a := by
  unfold cut; rw [hl, Nat.add_sub_cancel_left, List.take_left' rfl]
theorem search_pre : ∀ {a b : List Nat}, 59 ∉ a → searchD (a ++ b) = (searchD b).map (· + a.length)
  | [], b, _ => by cases h : searchD b <;> simp [h]
  | c :: r, b, h => by
    simp only [List.mem_cons, not_or] at h
    have ih := search_pre (a := r) (b := b) h.2
    show (if c = 59 then some 0 else (searchD (r ++ b)).map (· + 1)) = _
    rw [if_neg (fun e => h.1 e.symm), ih]
    cases searchD b <;> simp [Nat.add_assoc]
theorem qs_esc : ∀ (w rest : List Nat), qs (esc w ++ (34 :: rest)) = some ((esc w).length + 1)
  | [], rest => by rw [esc_nil]; exact qs_close
  | c :: r, rest => by
    have ih := qs_esc r rest
    rw [esc_cons, List.append_assoc]
    unfold escC
    split
    · show qs (92 :: 92 :: (esc r ++ (34 :: rest))) = _
      rw [qs, if_pos ⟨rfl, .inl rfl⟩, ih]
      simp [Nat.add_comm, Nat.add_left_comm]
    · split
      · show qs (92 :: 34 :: (esc r ++ (34 :: rest))) = _
        rw [qs, if_pos ⟨rfl, .inr rfl⟩, ih]
        simp [Nat.add_comm, Nat.add_left_comm]
      · rename_i h1 h2
        show qs (c :: (esc r ++ (34 :: rest))) = _
        rw [qs_other h2 (fun e => h1 e.1), ih]
        simp [Nat.add_comm, Nat.add_left_comm]
theorem nt61 : tokC 61 = false := by decide +kernel
theorem nt59 : tokC 59 = false := by decide +kernel
theorem nt34 : tokC 34 = false := by decide +kernel
theorem key_tok {j : Nat} (h : j < 4) : ∀ c ∈ keyN j, tokC c = true := by
  rcases key_cases h with rfl | rfl | rfl | rfl <;> decide +kernel
theorem po_one {l rest w : List Nat} {p j : Nat} (hj : j < 4) (hl : l.drop p = keyN j ++ (61 :: (quote w ++ rest))) (hr : rest = [] ∨ ∃ r, rest = 59 :: r) :
    ∃ q, poHead l p = some ([(keyN j, quote w)], q) ∧ ∃ a, l.drop q = a ++ rest ∧ 59 ∉ a ∧ q + a.length = p + 5 + (quote w).length := by
  have k4 : (keyN j).length = 4 := rfl
  have hn : runN tokC l p = 4 := run_pre hl (key_tok hj) (by intro c hc; cases hc; exact nt61)
  have h61 : l[p + 4]? = some 61 := get_pre hl
  have hd4 := drop_pre hl
  rw [k4] at hd4
  have hd5 : l.drop (p + 4 + 1) = quote w ++ rest := by rw [← List.drop_drop, hd4]; rfl
  have hcut : cut l p (p + 4) = keyN j := cut_pre hl
  have hh : 1 ≤ runN tokC l p ∧ l[p + runN tokC l p]? = some 61 := by rw [hn]; exact ⟨by omega, h61⟩
  have hrest : ∀ c, rest.head? = some c → tokC c = false := by
    intro c hc
    rcases hr with rfl | ⟨r, rfl⟩
    · cases hc
    · cases hc; exact nt59
  by_cases ht : isTok w = true
  · have hq : quote w = w := by unfold quote; rw [if_pos ht]
    rw [hq] at hd5
    have hw : runN tokC l (p + 4 + 1) = w.length := run_pre hd5 (fun c hc => tokC_of c ((isTok_mem ht).2 c hc)) hrest
    have h1 : 1 ≤ runN tokC l (p + runN tokC l p + 1) := by
      rw [hn, hw]
      have := (isTok_mem ht).1
      cases w with
      | nil => exact absurd rfl this
      | cons _ _ => simp
    refine ⟨p + 5, ?_, w, hd5, tok_free ht tok59, by rw [hq]⟩
    rw [ph_tok hh h1, hn, hcut, low_key hj, hw, cut_pre hd5, hq]
  · have hq : quote w = quoteF w := by unfold quote; rw [if_neg ht]
    rw [hq] at hd5
    have e0 : quoteF w ++ rest = 34 :: (esc w ++ (34 :: rest)) := by unfold quoteF; simp
    have hw : runN tokC l (p + 4 + 1) = 0 := run_pre (a := []) (b := quoteF w ++ rest) hd5 (by simp) (by intro c hc; rw [e0] at hc; cases hc; exact nt34)
    have h34 : l[p + 4 + 1]? = some 34 := by
      have := get_pre (a := []) (b := quoteF w ++ rest) hd5
      rw [e0] at this; exact this
    have hd6 : l.drop (p + 4 + 1 + 1) = esc w ++ (34 :: rest) := by
      rw [← List.drop_drop, hd5, e0]; rfl
    have hqs : qs (l.drop (p + 4 + 1 + 1)) = some ((esc w).length + 1) := by rw [hd6]; exact qs_esc w rest
    have hlen : (quoteF w).length = 1 + ((esc w).length + 1) := by simp [quoteF]; omega
    refine ⟨p + 4 + 1 + (quoteF w).length, ?_, [], drop_pre hd5, by simp, by rw [hq, List.length_nil]; omega⟩
    unfold poHead
    simp only [if_pos hh]
    rw [hn]
    simp only [hw, h34, hqs]
    rw [if_neg (by omega)]
    simp only [if_true]
    have e1 : p + 4 + 1 + 1 + ((esc w).length + 1) = p + 4 + 1 + (quoteF w).length := by omega
    rw [hcut, e1, cut_pre hd5, hq]
    show some ([(lowL (keyN j), _)], _) = _
    rw [low_key hj]
theorem po_unfold {n p q : Nat} {l : List Nat} {xs : List PairL} (h1 : ¬ l.length ≤ p) (h2 : poHead l p = some (xs, q)) : poRun (n + 1) l p = match searchD (l.drop q) with | none => xs | some o => xs ++ poRun n l (q + o + 1 + runN blankC l (q + o + 1)) := by
  rw [poRun, if_neg h1, h2]; try rfl
def sg (s : Nat × List Nat) : List Nat := keyN s.1 ++ (61 :: quote s.2)
theorem po_segs : ∀ (ss : List (Nat × List Nat)) (l : List Nat) (p n : Nat), ss ≠ [] → (∀ s ∈ ss, s.1 < 4) → l.drop p = joinL [59, 32] (ss.map sg) → ss.length ≤ n → poRun n l p = ss.map fun s => (keyN s.1, quote s.2)
  | [], _, _, _, h, _, _, _ => absurd rfl h
  | [s], l, p, n, _, hk, hl, hn => by
    obtain ⟨n, rfl⟩ : ∃ m, n = m + 1 := ⟨n - 1, by simp at hn; omega⟩
    have hl' : l.drop p = keyN s.1 ++ (61 :: (quote s.2 ++ [])) := by rw [hl, List.append_nil]; rfl
    obtain ⟨q, h1, a, h2, h3, h4⟩ := po_one (hk s (.head _)) hl' (.inl rfl)
    have hp : ¬ l.length ≤ p := fun h => by rw [List.drop_eq_nil_of_le h] at hl'; cases hl'
    rw [po_unfold hp h1, h2, search_pre h3]; rfl
  | s :: u :: r, l, p, n, _, hk, hl, hn => by
    obtain ⟨n, rfl⟩ : ∃ m, n = m + 1 := ⟨n - 1, by simp at hn; omega⟩
    have hl' : l.drop p = keyN s.1 ++ (61 :: (quote s.2 ++ (59 :: 32 :: joinL [59, 32] ((u :: r).map sg)))) := by
      rw [hl]
      show sg s ++ [59, 32] ++ joinL [59, 32] ((u :: r).map sg) = _
      simp [sg]
    obtain ⟨q, h1, a, h2, h3, h4⟩ := po_one (hk s (.head _)) hl' (.inr ⟨_, rfl⟩)
    have hp : ¬ l.length ≤ p := fun h => by rw [List.drop_eq_nil_of_le h] at hl'; cases hl'
    have hs : searchD (a ++ (59 :: 32 :: joinL [59, 32] ((u :: r).map sg))) = some a.length := by
      rw [search_pre h3]
      show (some 0).map (· + a.length) = _
      simp
    have hd1 : l.drop (q + a.length + 1) = 32 :: joinL [59, 32] ((u :: r).map sg) := by
      rw [← List.drop_drop, drop_pre h2]; rfl
    obtain ⟨x, y, hxy, hxb⟩ : ∃ x y, joinL [59, 32] ((u :: r).map sg) = x :: y ∧ x = 107 := by
      cases r with
      | nil => exact ⟨107, _, rfl, rfl⟩
      | cons _ _ => exact ⟨107, _, rfl, rfl⟩
    have hrun : runN blankC l (q + a.length + 1) = 1 := run_pre (a := [32]) (b := joinL [59, 32] ((u :: r).map sg)) hd1 (by decide) (by rw [hxy, hxb]; intro c hc; cases hc; rfl)
    have hd2 : l.drop (q + a.length + 1 + 1) = joinL [59, 32] ((u :: r).map sg) := by rw [← List.drop_drop, hd1]; rfl
    rw [po_unfold hp h1, h2, hs]
    simp only []
    rw [hrun, po_segs (u :: r) l _ n (by simp) (fun x hx => hk x (.tail _ hx)) hd2 (by simp at hn ⊢; omega)]
    rfl
end Mine
end
section
open PySem PySem.W PyProof.Rows PySem.Calls PySem.Spec PySem.Builtin PySem.Builtin.Str
namespace Mine
open RE
abbrev Js := List (Nat × Option (List Nat))
def rowsOf (js : Js) : List RowL := js.map fun x => (keyN x.1, x.2)
def ssOf : Js → List (Nat × List Nat)
  | [] => []
  | (j, none) :: r => ssOf r
  | (j, some w) :: r => (j, w) :: ssOf r
def optsOf (ss : List (Nat × List Nat)) : List RowL := ss.map fun s => (keyN s.1, some s.2)
def JsOk (js : Js) : Prop := (∀ x ∈ js, x.1 < 4) ∧ (js.map (·.1)).Nodup
theorem keyN_inj {a b : Nat} (h : keyN a = keyN b) : a = b := by
  unfold keyN at h
  have := (List.cons.inj (List.cons.inj (List.cons.inj (List.cons.inj h).2).2).2).1
  omega
theorem nodup_key {l : List Nat} (h : l.Nodup) : (l.map keyN).Nodup := by
  induction h with
  | nil => exact .nil
  | @cons a l h1 _ ih =>
    rw [List.map_cons]
    refine List.nodup_cons.mpr ⟨fun hm => ?_, ih⟩
    obtain ⟨b, hb, e⟩ := List.mem_map.mp hm
    exact h1 b hb (keyN_inj e.symm)
theorem tabRows_of {js : Js} (h : JsOk js) : TabRows (rowsOf js) := by
  refine ⟨fun r hr => ?_, ?_⟩
  · obtain ⟨x, hx, rfl⟩ := List.mem_map.mp hr
    exact ⟨x.1, h.1 x hx, rfl⟩
  · have : (rowsOf js).map (·.1) = (js.map (·.1)).map keyN := by unfold rowsOf; rw [List.map_map, List.map_map]; rfl
    rw [this]; exact nodup_key h.2
theorem ss_sub : ∀ js : Js, ((ssOf js).map (·.1)).Sublist (js.map (·.1))
  | [] => .slnil
  | (j, none) :: r => (ss_sub r).cons _
  | (j, some w) :: r => (ss_sub r).cons_cons _
theorem ss_lt {js : Js} (h : JsOk js) : ∀ s ∈ ssOf js, s.1 < 4 := fun s hs => by
  have := (ss_sub js).subset (List.mem_map.mpr ⟨s, hs, rfl⟩)
  obtain ⟨x, hx, e⟩ := List.mem_map.mp this
  rw [← e]; exact h.1 x hx
theorem ss_nodup {js : Js} (h : JsOk js) : ((ssOf js).map (·.1)).Nodup := h.2.sublist (ss_sub js)
theorem segO_ss : ∀ js : Js, (rowsOf js).flatMap segO = (ssOf js).map sg
  | [] => rfl
  | (j, none) :: r => by
    show segO (keyN j, none) ++ (rowsOf r).flatMap segO = _
    rw [segO_ss r]; rfl
  | (j, some w) :: r => by
    show [keyN j ++ [61] ++ quote w] ++ (rowsOf r).flatMap segO = _
    rw [segO_ss r]
    show _ = [sg (j, w)] ++ (ssOf r).map sg
    congr 1
theorem sg_solid {s : Nat × List Nat} (h : s.1 < 4) : Solid (sg s) := by
  have := seg_solid h (some s.2)
  exact this
theorem solid_join (sep : List Nat) : ∀ qs : List (List Nat), qs ≠ [] → (∀ q ∈ qs, Solid q) → Solid (joinL sep qs)
  | [], h, _ => absurd rfl h
  | [q], _, h => h q (.head _)
  | q :: u :: r, _, h => by
    have hq := h q (.head _)
    show Solid (q ++ sep ++ joinL sep (u :: r))
    refine solid_app (fun e => ?_) (fun c hc => ?_) (solid_join sep (u :: r) (by simp) fun x hx => h x (.tail _ hx))
    · exact hq.1 (List.append_eq_nil_iff.mp e).1
    · cases hc2 : q with
      | nil => exact absurd hc2 hq.1
      | cons x y => rw [hc2] at hc; exact hq.2.1 c (by rw [hc2]; exact hc)
theorem join_ge (sep : List Nat) : ∀ qs : List (List Nat), (∀ q ∈ qs, q ≠ []) → qs.length ≤ (joinL sep qs).length
  | [], _ => Nat.zero_le _
  | [q], h => by
    have := h q (.head _)
    cases q with
    | nil => exact absurd rfl this
    | cons _ _ => simp [joinL]
  | q :: u :: r, h => by
    have ih := join_ge sep (u :: r) fun x hx => h x (.tail _ hx)
    have := h q (.head _)
    show _ ≤ (q ++ sep ++ joinL sep (u :: r)).length
    cases q with
    | nil => exact absurd rfl this
    | cons _ _ => simp only [List.length_append, List.length_cons] at ih ⊢; omega
theorem join_le (sep : List Nat) (B : Nat) : ∀ qs : List (List Nat), (∀ q ∈ qs, q.length ≤ B) → (joinL sep qs).length ≤ qs.length * (B + sep.length)
  | [], _ => by simp [joinL]
  | [q], h => by
    have := h q (.head _)
    simp [joinL]; omega
  | q :: u :: r, h => by
    have ih := join_le sep B (u :: r) fun x hx => h x (.tail _ hx)
    have := h q (.head _)
    show (q ++ sep ++ joinL sep (u :: r)).length ≤ _
    simp only [List.length_append, List.length_cons, Nat.succ_mul] at ih ⊢; omega
theorem pv_fold {ss : List (Nat × List Nat)} (acc : List RowL) : (ss.map fun s => (keyN s.1, quote s.2)).foldl pvStep acc = (optsOf ss).foldl (fun a r => putR a r.1 r.2) acc := by
  induction ss generalizing acc with
  | nil => rfl
  | cons s r ih =>
    rw [List.map_cons, List.foldl_cons, ih]
    show _ = (optsOf r).foldl _ (putR acc (keyN s.1) (some s.2))
    unfold pvStep
    rw [unq_quote]
theorem opts_keys (ss : List (Nat × List Nat)) : (optsOf ss).map (·.1) = (ss.map (·.1)).map keyN := by
  unfold optsOf; rw [List.map_map, List.map_map]; rfl
def valT : List Nat := [116, 101, 120, 116, 47, 120]
theorem opts_text {js : Js} {s : Nat × List Nat} {r : List (Nat × List Nat)} (e : ssOf js = s :: r) : joinL [59, 32] ([valT] ++ (rowsOf js).flatMap segO) = valT ++ (59 :: 32 :: joinL [59, 32] ((s :: r).map sg)) := by
  rw [segO_ss, e]
  show valT ++ [59, 32] ++ joinL [59, 32] ((s :: r).map sg) = _
  simp
theorem bef_val (X : List Nat) : bef 59 (valT ++ (59 :: X)) = valT := rfl
theorem aft_val (X : List Nat) : aft 59 (valT ++ (59 :: X)) = X := rfl
/-- what the written options read as -/
theorem law_opts {js : Js} (h : JsOk js) : strip2 (bef 59 (joinL [59, 32] ([valT] ++ (rowsOf js).flatMap segO))) = valT ∧ parseO (joinL [59, 32] ([valT] ++ (rowsOf js).flatMap segO)) = optsOf (ssOf js) ∧
    poRun ((strip2 (aft 59 (joinL [59, 32] ([valT] ++ (rowsOf js).flatMap segO)))).length + 1) (strip2 (aft 59 (joinL [59, 32] ([valT] ++ (rowsOf js).flatMap segO)))) 0 = (ssOf js).map fun s => (keyN s.1, quote s.2) := by
  cases e : ssOf js with
  | nil =>
    have et : joinL [59, 32] ([valT] ++ (rowsOf js).flatMap segO) = valT := by rw [segO_ss, e]; rfl
    rw [et]
    refine ⟨by decide +kernel, ?_, by decide +kernel⟩
    unfold parseO
    rw [if_pos (.inr (by decide +kernel))]; rfl
  | cons s r =>
    have hlt := ss_lt h
    rw [e] at hlt
    have hsol : ∀ q ∈ (s :: r).map sg, Solid q := fun q hq => by
      obtain ⟨x, hx, rfl⟩ := List.mem_map.mp hq
      exact sg_solid (hlt x hx)
    have hbody := solid_join [59, 32] ((s :: r).map sg) (by simp) hsol
    have hstrip : strip2 (32 :: joinL [59, 32] ((s :: r).map sg)) = joinL [59, 32] ((s :: r).map sg) := strip_pre (a := [32]) hbody (by simp [bl])
    have hlen := join_ge [59, 32] ((s :: r).map sg) fun q hq => (hsol q hq).1
    have hrun : poRun ((joinL [59, 32] ((s :: r).map sg)).length + 1) (joinL [59, 32] ((s :: r).map sg)) 0 = (s :: r).map fun s => (keyN s.1, quote s.2) :=
      po_segs (s :: r) _ 0 _ (by simp) hlt rfl (by rw [List.length_map] at hlen; omega)
    rw [opts_text e, bef_val, aft_val, hstrip]
    refine ⟨by decide +kernel, ?_, hrun⟩
    unfold parseO
    rw [bef_val, aft_val, hstrip, if_neg, hrun, pv_fold]
    · rw [put_fold _ []]
      · rfl
      · rw [List.nil_append, opts_keys]
        have := ss_nodup h
        rw [e] at this
        exact nodup_key this
    · rintro (h1 | h1)
      · exact absurd h1 (by decide +kernel)
      · exact hbody.1 h1
-- the loose text
def otherT : List Nat := [111, 116, 104, 101, 114]
def K0T : List Nat := [75, 69, 89, 48]
def looseA : List Nat := K0T ++ (61 :: otherT)
def looseB : List Nat := [32, 59, 59, 32, 9, 106, 117, 110, 107, 59]
theorem lz {X : List Nat} {n : Nat} (hX : ∀ c, X.head? = some c → c = 32) : ∃ m, poRun (n + 3) (looseA ++ (looseB ++ X)) 0 = (keyN 0, otherT) :: poRun n (looseA ++ (looseB ++ X)) (20 + m) ∧ m = runN blankC (looseA ++ (looseB ++ X)) 20 := by
  have hlen : (looseA ++ (looseB ++ X)).length = 20 + X.length := by simp [looseA, looseB, K0T, otherT]; omega
  have d0 : (looseA ++ (looseB ++ X)).drop 0 = K0T ++ (61 :: (otherT ++ (looseB ++ X))) := rfl
  have r0 : runN tokC (looseA ++ (looseB ++ X)) 0 = 4 := run_pre d0 (by decide +kernel) (by intro c hc; cases hc; exact nt61)
  have g0 : (looseA ++ (looseB ++ X))[0 + 4]? = some 61 := rfl
  have d5 : (looseA ++ (looseB ++ X)).drop (0 + 4 + 1) = otherT ++ (looseB ++ X) := rfl
  have r5 : runN tokC (looseA ++ (looseB ++ X)) (0 + 4 + 1) = 5 := run_pre d5 (by decide +kernel) (by intro c hc; cases hc; decide +kernel)
  have hh : 1 ≤ runN tokC (looseA ++ (looseB ++ X)) 0 ∧ (looseA ++ (looseB ++ X))[0 + runN tokC (looseA ++ (looseB ++ X)) 0]? = some 61 := by rw [r0]; exact ⟨by omega, g0⟩
  have h1 : 1 ≤ runN tokC (looseA ++ (looseB ++ X)) (0 + runN tokC (looseA ++ (looseB ++ X)) 0 + 1) := by rw [r0, r5]; omega
  have p0 : poHead (looseA ++ (looseB ++ X)) 0 = some ([(keyN 0, otherT)], 5) := by
    rw [ph_tok hh h1, r0, r5]
    have c1 : cut (looseA ++ (looseB ++ X)) 0 (0 + 4) = K0T := rfl
    have c2 : cut (looseA ++ (looseB ++ X)) (0 + 4 + 1) (0 + 4 + 1 + 5) = otherT := rfl
    have c3 : lowL K0T = keyN 0 := by decide +kernel
    rw [c1, c2, c3]
  have s5 : searchD ((looseA ++ (looseB ++ X)).drop 5) = some 6 := rfl
  have b12 : runN blankC (looseA ++ (looseB ++ X)) 12 = 0 := rfl
  have p12 : poHead (looseA ++ (looseB ++ X)) 12 = some ([], 12) := ph_nokey (by
    have : runN tokC (looseA ++ (looseB ++ X)) 12 = 0 := run_pre (a := []) (b := 59 :: 32 :: 9 :: 106 :: 117 :: 110 :: 107 :: 59 :: X) rfl (by simp) (by intro c hc; cases hc; exact nt59)
    rw [this]; omega)
  have s12 : searchD ((looseA ++ (looseB ++ X)).drop 12) = some 0 := rfl
  have b13 : runN blankC (looseA ++ (looseB ++ X)) 13 = 2 := rfl
  have p15 : poHead (looseA ++ (looseB ++ X)) 15 = some ([], 15) := ph_nokey (by
    have : runN tokC (looseA ++ (looseB ++ X)) 15 = 4 := run_pre (a := [106, 117, 110, 107]) (b := 59 :: X) rfl (by decide +kernel) (by intro c hc; cases hc; exact nt59)
    rw [this]
    rintro ⟨_, h⟩
    have : (looseA ++ (looseB ++ X))[15 + 4]? = some 59 := rfl
    rw [this] at h; cases h)
  have s15 : searchD ((looseA ++ (looseB ++ X)).drop 15) = some 4 := rfl
  refine ⟨_, ?_, rfl⟩
  rw [po_unfold (by omega) p0, s5]
  simp only []
  rw [show 5 + 6 + 1 = 12 from rfl, b12, po_unfold (by omega) p12, s12]
  simp only []
  rw [show 12 + 0 + 1 = 13 from rfl, b13, po_unfold (by omega) p15, s15]
  simp only [List.nil_append]
  rw [show 15 + 4 + 1 = 20 from rfl]
  rfl
def looseText (js : Js) : List Nat := joinL [59, 32] ([valT] ++ [looseA]) ++ ([32, 59, 59, 32, 9, 106, 117, 110, 107, 59, 32] ++ joinL [59, 32] ([] ++ (rowsOf js).flatMap segO))
theorem loose_eq (js : Js) : looseText js = valT ++ (59 :: 32 :: (looseA ++ (looseB ++ (32 :: joinL [59, 32] ((ssOf js).map sg))))) := by
  unfold looseText
  rw [List.nil_append, segO_ss]
  show (valT ++ [59, 32] ++ looseA) ++ _ = _
  simp [looseB]
theorem solidA : Solid looseA := solid_chars (by decide) (by decide +kernel)
/-- the rows that the loose text reads as -/
theorem law_loose {o0 : Option (List Nat)} {r : Js} (h : JsOk ((0, o0) :: r)) : strip2 (bef 59 (looseText ((0, o0) :: r))) = valT ∧
    poRun ((strip2 (aft 59 (looseText ((0, o0) :: r)))).length + 1) (strip2 (aft 59 (looseText ((0, o0) :: r)))) 0 = (keyN 0, otherT) :: (ssOf ((0, o0) :: r)).map (fun s => (keyN s.1, quote s.2)) ∧
    parseO (looseText ((0, o0) :: r)) = (match o0 with | none => (keyN 0, some otherT) :: optsOf (ssOf r) | some w => optsOf (ssOf ((0, o0) :: r))) := by
  have hlt := ss_lt h
  have key : ∃ l, strip2 (aft 59 (looseText ((0, o0) :: r))) = l ∧ l ≠ [] ∧ poRun (l.length + 1) l 0 = (keyN 0, otherT) :: (ssOf ((0, o0) :: r)).map (fun s => (keyN s.1, quote s.2)) := by
    rw [loose_eq, aft_val]
    cases e : ssOf ((0, o0) :: r) with
    | nil =>
      refine ⟨looseA ++ (looseB ++ []), ?_, by simp [looseA, K0T], ?_⟩
      · decide +kernel
      · obtain ⟨m, h1, h2⟩ := lz (X := []) (n := 18) (by intro c hc; simp at hc)
        have hl : (looseA ++ (looseB ++ [])).length + 1 = 18 + 3 := by decide +kernel
        rw [hl, h1]
        congr 1
        rw [show (18 : Nat) = 17 + 1 from rfl, poRun, if_pos]
        · rfl
        · have : (looseA ++ (looseB ++ ([] : List Nat))).length = 20 := by decide +kernel
          omega
    | cons s q =>
      rw [e] at hlt
      have hsol : ∀ x ∈ (s :: q).map sg, Solid x := fun x hx => by
        obtain ⟨y, hy, rfl⟩ := List.mem_map.mp hx
        exact sg_solid (hlt y hy)
      have hbody := solid_join [59, 32] ((s :: q).map sg) (by simp) hsol
      have hlen := join_ge [59, 32] ((s :: q).map sg) fun x hx => (hsol x hx).1
      rw [List.length_map] at hlen
      have hs : Solid (looseA ++ (looseB ++ (32 :: joinL [59, 32] ((s :: q).map sg)))) := by
        have e1 : looseA ++ (looseB ++ (32 :: joinL [59, 32] ((s :: q).map sg))) = (looseA ++ (looseB ++ [32])) ++ joinL [59, 32] ((s :: q).map sg) := by simp
        rw [e1]
        exact solid_app (by simp [looseA, K0T]) (by intro c hc; cases hc <;> rfl) hbody
      refine ⟨looseA ++ (looseB ++ (32 :: joinL [59, 32] ((s :: q).map sg))), strip_pre (a := [32]) hs (by simp [bl]), hs.1, ?_⟩
      obtain ⟨m, h1, h2⟩ := lz (X := 32 :: joinL [59, 32] ((s :: q).map sg)) (n := (joinL [59, 32] ((s :: q).map sg)).length + 19) (by intro c hc; cases hc <;> rfl)
      have hl : (looseA ++ (looseB ++ (32 :: joinL [59, 32] ((s :: q).map sg)))).length + 1 = (joinL [59, 32] ((s :: q).map sg)).length + 19 + 3 := by
        simp [looseA, looseB, K0T, otherT]
      obtain ⟨x, y, hxy, hxb⟩ : ∃ x y, joinL [59, 32] ((s :: q).map sg) = x :: y ∧ x = 107 := by
        cases q with
        | nil => exact ⟨107, _, rfl, rfl⟩
        | cons _ _ => exact ⟨107, _, rfl, rfl⟩
      have hm : m = 1 := by
        rw [h2]
        exact run_pre (a := [32]) (b := joinL [59, 32] ((s :: q).map sg)) rfl (by decide) (by rw [hxy, hxb]; intro c hc; cases hc; rfl)
      rw [hl, h1, hm]
      congr 1
      exact po_segs (s :: q) _ _ _ (by simp) hlt rfl (by omega)
  obtain ⟨l, e1, e2, e3⟩ := key
  refine ⟨by rw [loose_eq, bef_val]; decide +kernel, by rw [e1, e3], ?_⟩
  unfold parseO
  rw [e1, e3, if_neg]
  · rw [List.foldl_cons, pv_fold]
    have e4 : pvStep [] (keyN 0, otherT) = [(keyN 0, some otherT)] := by decide +kernel
    rw [e4]
    have hn := ss_nodup h
    cases o0 with
    | none =>
      have h0 : (0 : Nat) ∉ (ssOf r).map (·.1) := fun hm => (List.nodup_cons.mp h.2).1 ((ss_sub r).subset hm)
      show (optsOf (ssOf r)).foldl _ _ = _
      rw [put_fold]
      · rfl
      · rw [List.map_append, opts_keys]
        show (keyN 0 :: ((ssOf r).map (·.1)).map keyN).Nodup
        exact nodup_key (l := 0 :: (ssOf r).map (·.1)) (List.nodup_cons.mpr ⟨h0, hn⟩)
    | some w =>
      show (optsOf (ssOf r)).foldl _ (putR [(keyN 0, some otherT)] (keyN 0) (some w)) = _
      have e5 : putR [(keyN 0, some otherT)] (keyN 0) (some w) = [(keyN 0, some w)] := by
        unfold putR; rw [if_pos (by decide +kernel)]; rfl
      rw [e5, put_fold]
      · rfl
      · rw [List.map_append, opts_keys]
        exact nodup_key (l := (ssOf ((0, some w) :: r)).map (·.1)) hn
  · rintro (h1 | h1)
    · rw [loose_eq, bef_val] at h1; exact absurd h1 (by decide +kernel)
    · exact e2 h1
end Mine
end
section
open PySem PySem.W PyProof.Rows PySem.Calls PySem.Spec PySem.Builtin PySem.Builtin.Str
namespace Mine
open RE
theorem at_cs {l : List Nat} {i : Nat} : StrLaws.At (S l) (S [44, 32]) (S l).length i ↔ (l.drop i).take 2 = [44, 32] := by
  unfold StrLaws.At
  rw [subAt_S, S_len, S_len]
  constructor
  · intro h; simpa using h.2
  · intro h
    have := (drop_two h).2
    exact ⟨this, by simpa using h⟩
theorem at_get {l : List Nat} {i : Nat} (h : (l.drop i).take 2 = [44, 32]) : l[i]? = some 44 := by
  have := (drop_two h).1
  have e : l[i]? = (l.drop i)[0]? := by rw [List.getElem?_drop]; rfl
  rw [e, this]; rfl
theorem sub_S (l : List Nat) (i j : Nat) : strSub (S l) i j = S ((l.drop i).take (j - i)) := eq_S (by rw [StrLaws.strSub_toList, cps_S])
theorem parts_cs : ∀ (qs : List (List Nat)) (l : List Nat) (a : Nat) (cuts : List Nat) (f : Nat), qs ≠ [] → (∀ q ∈ qs, 44 ∉ q) → l.drop a = joinL [44, 32] qs → StrLaws.ChainG (S l) (S [44, 32]) (S l).length a cuts f → (∀ k, f ≤ k → ¬ StrLaws.At (S l) (S [44, 32]) (S l).length k) →
    StrLaws.partsFrom (S l) 2 a cuts = qs.map S
  | [], _, _, _, _, h, _, _, _, _ => absurd rfl h
  | [q], l, a, cuts, f, _, hq, hl, hc, hf => by
    cases cuts with
    | nil =>
      show [strSub (S l) a (S l).length] = [S q]
      rw [sub_S, S_len, List.take_of_length_le (by simp), hl]; rfl
    | cons c r =>
      obtain ⟨h1, h2, _⟩ := hc
      have h3 := at_get (at_cs.mp h2)
      have h4 : 44 ∈ l.drop a := by
        have : (l.drop a)[c - a]? = some 44 := by rw [List.getElem?_drop, Nat.add_sub_cancel' h1]; exact h3
        exact List.mem_of_getElem? this
      rw [hl] at h4
      exact absurd h4 (hq q (.head _))
  | q :: u :: r, l, a, cuts, f, _, hq, hl, hc, hf => by
    have hl' : l.drop a = q ++ (44 :: 32 :: joinL [44, 32] (u :: r)) := by
      rw [hl]
      show q ++ [44, 32] ++ joinL [44, 32] (u :: r) = _
      simp
    have hat : StrLaws.At (S l) (S [44, 32]) (S l).length (a + q.length) := at_cs.mpr (by rw [drop_pre hl']; rfl)
    cases cuts with
    | nil =>
      have hfa : f = a := hc
      exact absurd hat (hf _ (by omega))
    | cons c cr =>
      obtain ⟨h1, h2, h3, h4⟩ := hc
      have hle : c ≤ a + q.length := by
        rcases Nat.lt_or_ge (a + q.length) c with h | h
        · exact absurd hat (h3 _ (by omega) h)
        · exact h
      have hge : a + q.length ≤ c := by
        rcases Nat.lt_or_ge c (a + q.length) with h | h
        · have h5 := at_get (at_cs.mp h2)
          have h6 : (l.drop a)[c - a]? = some 44 := by rw [List.getElem?_drop, Nat.add_sub_cancel' h1]; exact h5
          rw [hl', List.getElem?_append_left (by omega)] at h6
          exact absurd (List.mem_of_getElem? h6) (hq q (.head _))
        · exact h
      have hcq : c = a + q.length := by omega
      subst hcq
      have hd : l.drop (a + q.length + 2) = joinL [44, 32] (u :: r) := by
        rw [← List.drop_drop, drop_pre hl']; rfl
      show strSub (S l) a (a + q.length) :: StrLaws.partsFrom (S l) 2 (a + q.length + 2) cr = S q :: (u :: r).map S
      rw [parts_cs (u :: r) l _ cr f (by simp) (fun x hx => hq x (.tail _ hx)) hd h4 hf, sub_S, Nat.add_sub_cancel_left, hl', List.take_left' rfl]
theorem replace_cs {qs : List (List Nat)} (z : List Nat) (hq : ∀ q ∈ qs, 44 ∉ q) : Txt.replace (S (joinL [44, 32] qs)) (S [44, 32]) (S z) = S (joinL z qs) := by
  cases qs with
  | nil =>
    unfold Txt.replace
    rw [occ_none (x := joinL [44, 32] []) (c := 44) (by simp) (by simp [joinL])]
    rfl
  | cons q r =>
    obtain ⟨f, h1, h2⟩ := StrLaws.occ_tight (S (joinL [44, 32] (q :: r))) (S [44, 32]) (by rw [S_len]; decide)
    have h3 := parts_cs (q :: r) (joinL [44, 32] (q :: r)) 0 _ f (by simp) hq rfl h1 h2
    unfold Txt.replace
    have hy : ((S [44, 32]).length == 0) = false := rfl
    rw [hy, Bool.false_and, Bool.or_false]
    split
    · rename_i he
      rw [List.isEmpty_iff.mp he] at h3
      cases r with
      | nil => rfl
      | cons u v =>
        have := congrArg List.length h3
        simp [StrLaws.partsFrom] at this
    · rw [StrLaws.glued_eq_join, StrLaws.partsBetween_eq]
      have e2 : (S [44, 32]).length = 2 := rfl
      rw [e2, h3, join_S]
/-- the parts between commas of the text with the widened separators -/
def partsT (pre : List Nat) : List (List Nat) → List (List Nat)
  | [] => []
  | [q] => [pre ++ q, []]
  | q :: u :: r => (pre ++ (q ++ [32])) :: [] :: partsT [32, 9] (u :: r)
theorem partsT_ne (pre : List Nat) {qs : List (List Nat)} (h : qs ≠ []) : ∃ a b, partsT pre qs = a :: b := by
  match qs, h with
  | [q], _ => exact ⟨_, _, rfl⟩
  | q :: u :: r, _ => exact ⟨_, _, rfl⟩
theorem joinC (t : List Nat) {l : List (List Nat)} (h : ∃ a b, l = a :: b) : joinL [44] (t :: l) = t ++ (44 :: joinL [44] l) := by
  obtain ⟨a, b, rfl⟩ := h
  show t ++ [44] ++ joinL [44] (a :: b) = _
  simp
theorem partsT_join : ∀ (qs : List (List Nat)) (pre : List Nat), qs ≠ [] → pre ++ (joinL [32, 44, 44, 32, 9] qs ++ [44]) = joinL [44] (partsT pre qs)
  | [], _, h => absurd rfl h
  | [q], pre, _ => by show pre ++ (q ++ [44]) = (pre ++ q) ++ [44] ++ []; simp
  | q :: u :: r, pre, _ => by
    have ih := partsT_join (u :: r) [32, 9] (by simp)
    show pre ++ ((q ++ [32, 44, 44, 32, 9] ++ joinL [32, 44, 44, 32, 9] (u :: r)) ++ [44]) = joinL [44] ((pre ++ (q ++ [32])) :: [] :: partsT [32, 9] (u :: r))
    rw [joinC _ ⟨_, _, rfl⟩, joinC _ (partsT_ne _ (by simp)), ← ih]
    simp
theorem partsT_strip : ∀ (qs : List (List Nat)) (pre : List Nat), (∀ c ∈ pre, bl c = true) → (∀ q ∈ qs, Solid q) → ((partsT pre qs).map strip2).filter (fun l => !l.isEmpty) = qs
  | [], _, _, _ => rfl
  | [q], pre, hp, h => by
    have hq := h q (.head _)
    have e : strip2 [] = [] := by decide +kernel
    show ([strip2 (pre ++ q), strip2 []]).filter _ = _
    rw [strip_pre hq hp, e]
    cases hc : q with
    | nil => exact absurd hc hq.1
    | cons _ _ => rfl
  | q :: u :: r, pre, hp, h => by
    have hq := h q (.head _)
    have ih := partsT_strip (u :: r) [32, 9] (by simp [bl]) fun x hx => h x (.tail _ hx)
    have e : strip2 [] = [] := by decide +kernel
    show (strip2 (pre ++ (q ++ [32])) :: strip2 [] :: (partsT [32, 9] (u :: r)).map strip2).filter _ = _
    rw [strip_solid hq hp (by simp [bl]), e]
    cases hc : q with
    | nil => exact absurd hc hq.1
    | cons x y =>
      show (x :: y) :: (List.filter _ ((partsT [32, 9] (u :: r)).map strip2)) = _
      rw [ih]
theorem partsT_plain : ∀ (qs : List (List Nat)) (pre : List Nat), PlainQ pre → (∀ q ∈ qs, PlainQ q) → ∀ t ∈ partsT pre qs, PlainQ t
  | [], _, _, _, _, ht => nomatch ht
  | [q], pre, hp, h, t, ht => by
    rcases List.mem_cons.mp ht with rfl | ht
    · exact hp.app (h q (.head _))
    · rw [List.mem_singleton.mp ht]; exact plain_chars (by simp)
  | q :: u :: r, pre, hp, h, t, ht => by
    rcases List.mem_cons.mp ht with rfl | ht
    · exact hp.app ((h q (.head _)).app (plain_chars (by decide)))
    · rcases List.mem_cons.mp ht with rfl | ht
      · exact plain_chars (by simp)
      · exact partsT_plain (u :: r) [32, 9] (plain_chars (by decide)) (fun x hx => h x (.tail _ hx)) t ht
theorem esc_free {c : Nat} (h1 : c ≠ 92) (h2 : c ≠ 34) : ∀ {w : List Nat}, c ∉ w → c ∉ esc w
  | [], _ => by rw [esc_nil]; simp
  | d :: r, h => by
    simp only [List.mem_cons, not_or] at h
    have ih := esc_free h1 h2 (w := r) h.2
    rw [esc_cons, List.mem_append, not_or]
    refine ⟨?_, ih⟩
    unfold escC
    split
    · simp [h1]
    · split
      · simp [h1, h2]
      · simpa using h.1
theorem quote_free {c : Nat} (h1 : c ≠ 92) (h2 : c ≠ 34) {w : List Nat} (h : c ∉ w) : c ∉ quote w := by
  unfold quote
  split
  · exact h
  · unfold quoteF
    simp only [List.mem_cons, List.mem_append, List.not_mem_nil, or_false, not_or]
    exact ⟨h2, esc_free h1 h2 h, h2⟩
/-- the plain words are read back out of the widened text -/
theorem law_plain {ws : List (List Nat)} (h : ∀ w ∈ ws, 44 ∉ w) : ∃ x, Txt.replace (S (joinL [44, 32] (ws.map quote))) (S [44, 32]) (S [32, 44, 44, 32, 9]) = S x ∧ x = joinL [32, 44, 44, 32, 9] (ws.map quote) ∧ parseL ([32, 44, 32] ++ (x ++ [44])) = ws := by
  refine ⟨_, replace_cs _ (fun q hq => ?_), rfl, ?_⟩
  · obtain ⟨w, hw, rfl⟩ := List.mem_map.mp hq
    exact quote_free (by decide) (by decide) (h w hw)
  · cases ws with
    | nil => decide +kernel
    | cons w r =>
      have hne : (w :: r).map quote ≠ [] := by simp
      have e1 : [32, 44, 32] ++ (joinL [32, 44, 44, 32, 9] ((w :: r).map quote) ++ [44]) = joinL [44] ([32] :: partsT [32] ((w :: r).map quote)) := by
        rw [joinC _ (partsT_ne _ hne), ← partsT_join _ [32] hne]; rfl
      have hsol : ∀ q ∈ (w :: r).map quote, Solid q := fun q hq => by
        obtain ⟨x, _, rfl⟩ := List.mem_map.mp hq; exact solid_quote x
      have hpl : ∀ q ∈ (w :: r).map quote, PlainQ q := fun q hq => by
        obtain ⟨x, _, rfl⟩ := List.mem_map.mp hq; exact plain_quote x
      rw [e1, parseL_join (by simp)]
      · have e2 : ((([32] :: partsT [32] ((w :: r).map quote)).map strip2).filter fun l => !l.isEmpty) = (w :: r).map quote := by
          have e3 : strip2 [32] = [] := by decide +kernel
          rw [List.map_cons, e3]
          exact partsT_strip _ [32] (by simp [bl]) hsol
        rw [e2, List.map_map]
        conv => rhs; rw [← List.map_id (w :: r)]
        exact List.map_congr_left fun x _ => unq_quote x
      · intro t ht
        rcases List.mem_cons.mp ht with rfl | ht
        · exact plain_chars (by decide)
        · exact partsT_plain _ [32] (plain_chars (by decide)) hpl t ht
end Mine
end
section
open PySem PySem.W PyProof.Rows PySem.Calls PySem.Spec
namespace Mine
section
variable {prog : Program} {w : World} {A : Around} {E : Value → Shared → Prop} {s : Shared} {env : Env} {h₀ : Heap} {body : List Stmt} {Q : Flow → Shared → Prop} {m₀ : Str → Option Value} {x : Str}
/-- a loop over a list that stands, where the part of the ledger that changes may grow -/
theorem for_listG {σ : Type} {l : Addr} {its : Array Value} {st : List (Addr × Obj)} (Led : σ → List (Addr × Obj)) (P : Nat → σ → Prop) (out : Str → Prop) (c₀ : σ) {L : Addr}
    (hh : A.handled = none) (F : Fr h₀ L s.heap m₀) (N : News h₀ L s.heap (Led c₀ ++ st)) (hL : env.locals = L) (hsrc : LCg.SrcAt h₀ l its st) (hdat : ∀ i c, P i c → ∀ p ∈ Led c, ∀ k : Int, p.2.data ≠ .fields #[.ref l, .int k 0]) (hp : P 0 c₀) (hx : out x)
    (turn : ∀ (i : Nat) (v : Value) (c : σ) (m₁ : Str → Option Value) (h : Heap) (tk : Nat) (own : List (Addr × Obj)), its[i]? = some v → P i c → (∀ z, ¬ out z → m₁ z = m₀ z) → (∀ q ∈ own, q.1 = l ∨ ∀ p ∈ Led c, p.1 ≠ q.1) → Fr h₀ L h (fun y => if y = x then some v else m₁ y) → News h₀ L h (Led c ++ (st ++ own)) →
      wpAny (model prog w) A (execs body env) (StEnd Led (P (i + 1)) out h₀ L m₀ (st ++ own) { s with heap := h, toks := tk } Q) E { s with heap := h, toks := tk })
    (done : ∀ (c : σ) (m₁ : Str → Option Value) (h : Heap) (tk : Nat), P its.size c → (∀ z, ¬ out z → m₁ z = m₀ z) → Fr h₀ L h m₁ → News h₀ L h (Led c ++ st) → Q .next { s with heap := h, toks := tk }) :
    wpAny (model prog w) A (pyIter (.ref l)) (fun it s₂ => LoopAtV prog w A h₀ env x body Q E it s₂) E s := by
  subst hL
  have hls : s.heap.IsList l its := LCg.SrcAt.list hsrc F.keep (fun p hp => N p (List.mem_append_right _ hp))
  obtain ⟨ol, hol, _⟩ := id hls
  have hlL : l ≠ env.locals := by
    rcases hsrc with ⟨o, ho, _⟩ | ⟨o, ho, _⟩
    · exact Nat.ne_of_lt (Nat.lt_of_lt_of_le (Heap.lt_size ho) F.above)
    · exact (N _ (List.mem_append_right _ ho)).2.1
  have hne : l ≠ s.heap.objs.size := Nat.ne_of_lt (Heap.lt_size hol)
  refine wpAny_pyIter_list hls ?_
  have W := Walks.list (prog := prog) (w := w) hh s.heap.objs.size l hne its
  have hIn : ∀ p ∈ Led c₀ ++ st, p.1 ≠ s.heap.objs.size := fun p hp => Nat.ne_of_lt (Heap.lt_size (N p hp).1)
  have hI0 : h₀.get? s.heap.objs.size = none := next_is_new F
  let J : Nat → (Str → Option Value) → List (Addr × Obj) → Prop := fun i m' nx => ∃ c, nx = Led c ++ st ∧ P i c ∧ ∀ z, ¬ out z → m' z = m₀ z
  refine ⟨_, _, _, its.size, _, _, m₀, Led c₀ ++ st, J, rfl, W, ?_, ?_, ?_, ⟨⟨_, Heap.get?_push_size _ rfl, rfl, rfl⟩, hls.at fun o e => Heap.get?_push_of_some _ e⟩, F.push _, (fun p hp => ⟨Heap.get?_push_of_some _ (N p hp).1, (N p hp).2⟩), ⟨c₀, rfl, hp, fun _ _ => rfl⟩, ?_, ?_⟩
  · intro hm
    rcases List.mem_cons.mp hm with e | hm
    · exact absurd F.ns.lt (e ▸ Nat.lt_irrefl _)
    · exact hlL (List.mem_singleton.mp hm).symm
  · intro b hb
    rw [List.mem_singleton.mp hb]; exact hI0
  · intro p hp hI
    exact hIn p hp (List.mem_singleton.mp hI)
  · rintro i v m₁ news₁ s₁ own ⟨hh', tk', rfl⟩ hin hP ⟨c, rfl, hpc, hm₁⟩ hoff hown hget hfp hst F₁ N₁
    have N₂ : News h₀ env.locals hh' (Led c ++ (st ++ own)) := fun p hp => N₁ p (by
      simp only [List.mem_append] at hp ⊢
      rcases hp with h | h | h
      · exact .inr (.inl h)
      · exact .inr (.inr h)
      · exact .inl h)
    refine wpAny_mono (turn i v c m₁ hh' tk' own hP hpc hm₁ (fun q hq => by
      have h1 := hown q hq
      simp only [List.mem_cons, List.not_mem_nil, or_false] at h1
      rcases h1 with h1 | h1
      · exact .inr fun p hp e => hoff p (List.mem_append_left _ hp) (by rw [e, h1]; exact .head _)
      · exact .inl h1) F₁ N₂) (fun f s₂ p => ?_) fun _ _ e => e
    have fin : StFin Led (P (i + 1)) out h₀ env.locals m₀ (st ++ own) { s with heap := hh', toks := tk' } s₂ → LoopStepU h₀ env.locals [s.heap.objs.size] own (J (i + 1)) { s with heap := hh', toks := tk' } .next s₂ := by
      rintro ⟨h', tk, m', news', c', e, F', N', h1, h2, h3, h4⟩
      obtain ⟨io, hio, hic, hid⟩ := hst.1
      have hown' : (s.heap.objs.size, io) ∈ own := hfp _ (by simp) hI0 io hio
      refine ⟨rfl, h', tk, m', Led c' ++ st, e, F', ?_, ?_, c', rfl, h3, h4⟩
      · intro p hp
        simp only [List.mem_append] at hp
        rcases hp with hp | hp | hp
        · exact N' p (h2 p (List.mem_append_right _ hp))
        · exact N' p (h1 p hp)
        · exact N' p (h2 p (List.mem_append_left _ hp))
      · intro p hp hI
        rw [List.mem_singleton] at hI
        rcases List.mem_append.mp hp with hp | hp
        · have g1 := (N' p (h1 p hp)).1
          have g2 := (N' _ (h2 _ (List.mem_append_right _ hown'))).1
          rw [hI, g2] at g1
          have := Option.some.inj g1
          exact hdat (i + 1) c' h3 p hp _ (by rw [← this]; exact hid)
        · exact hIn p (List.mem_append_right _ hp) hI
    cases f with
    | ret v => exact .ret p
    | brk => exact .brk p
    | next => exact .next (fin p)
    | cont => exact .cont (fin p)
  · rintro h' tk m' news' F' N' hnw' ⟨c, rfl, hpc, hm'⟩
    exact done c m' h' tk hpc hm' F' N'
end
end Mine
end
section
open PySem PySem.W PyProof.Rows PySem.Calls PySem.Spec
namespace Mine
open LCg
def LamO (oc : Obj) : Prop := ∃ vs t, oc.data = .fields vs ∧ vs[1]? = some (.str lamQual t)
def FullLed (h₀ : Heap) (nx : List (Addr × Obj)) : Prop := ∃ c oc, LamO oc ∧ (nx = [(44, tabObj #[rawInt 17, rawInt 31, .ref c]), (c, oc)] ∨ (nx = [(44, tabObj #[rawInt 17, rawInt 31, .ref c])] ∧ h₀.get? c = some oc))
def TabLed (h₀ : Heap) (nx : List (Addr × Obj)) : Prop := nx = [(44, tabObj #[])] ∨ FullLed h₀ nx
theorem full_tab {h₀ h : Heap} {L : Addr} {m : Str → Option Value} {nx r : List (Addr × Obj)} (x : FullLed h₀ nx) (F : Fr h₀ L h m) (N : News h₀ L h (nx ++ r)) : TabFull h := by
  obtain ⟨c, oc, ⟨vs, t, h1, h2⟩, e | ⟨e, hb⟩⟩ := x
  · subst e
    exact ⟨c, (N (44, tabObj #[rawInt 17, rawInt 31, .ref c]) (by simp)).1, c, oc, vs, t, rfl, (N (c, oc) (by simp)).1, h1, h2⟩
  · subst e
    exact ⟨c, (N (44, tabObj #[rawInt 17, rawInt 31, .ref c]) (by simp)).1, c, oc, vs, t, rfl, F.keep _ _ hb, h1, h2⟩
theorem tab_pre {h₀ h : Heap} {L : Addr} {m : Str → Option Value} {nx r : List (Addr × Obj)} (x : TabLed h₀ nx) (F : Fr h₀ L h m) (N : News h₀ L h (nx ++ r)) : (TabFull h ∨ (h.get? 44 = some (tabObj #[]) ∧ h₀.get? 44 = none)) ∧ h₀.get? 44 = none ∧ TabSt h := by
  rcases x with e | x
  · subst e
    have := N (44, tabObj #[]) (by simp)
    exact ⟨.inr ⟨this.1, this.2.2⟩, this.2.2, .inl this.1⟩
  · have ht := full_tab x F N
    refine ⟨.inl ht, ?_, .inr ht⟩
    obtain ⟨c, oc, _, e | ⟨e, _⟩⟩ := x <;> subst e <;> exact (N (44, tabObj #[rawInt 17, rawInt 31, .ref c]) (by simp)).2.2
theorem ns_data {h : Heap} {L : Addr} {m : Str → Option Value} (x : h.Ns L m) : ∃ o es ep, h.get? L = some o ∧ o.data = .dict es ep := by
  obtain ⟨o, es, ep, h1, h2, _⟩ := x
  exact ⟨o, es, ep, h1, h2⟩
/-- the ledger after a call that may have filled the code table -/
theorem tab_post {h₀ h h' : Heap} {L : Addr} {m : Str → Option Value} {nx r : List (Addr × Obj)} (x : TabLed h₀ nx) (F : Fr h₀ L h m) (N : News h₀ L h (nx ++ r)) (hr : ∀ p ∈ r, p.1 ≠ 44) (G : Grow h h') :
    ∃ nx', TabLed h₀ nx' ∧ Fr h₀ L h' m ∧ News h₀ L h' (nx' ++ r) ∧ (TabFull h' → FullLed h₀ nx') := by
  obtain ⟨hp, h44, hst⟩ := tab_pre x F N
  have F' : Fr h₀ L h' m := fr_grow F (.inl h44) hst G
  have hL44 : L ≠ 44 := ns_ne F.ns hst
  have Nr : News h₀ L h' r := fun p hp => ⟨G.but _ _ (hr p hp) (N p (List.mem_append_right _ hp)).1, (N p (List.mem_append_right _ hp)).2⟩
  rcases G.tab with e | ht
  · refine ⟨[(44, tabObj #[])], .inl rfl, F', fun p hp => ?_, fun ht => ?_⟩
    · rcases List.mem_append.mp hp with hp | hp
      · rw [List.mem_singleton.mp hp]; exact ⟨e, Ne.symm hL44, h44⟩
      · exact Nr p hp
    · obtain ⟨c, hc, _⟩ := ht
      rw [e] at hc; cases hc
  · obtain ⟨c, hc, c2, oc, vs, t, e, g1, g2, g3⟩ := ht
    cases e
    have hcL : c ≠ L := by
      rintro rfl
      obtain ⟨o, es, ep, h1, h2⟩ := ns_data F'.ns
      rw [h1] at g1; cases g1; rw [h2] at g2; cases g2
    cases hb : h₀.get? c with
    | none =>
      have hf : FullLed h₀ [(44, tabObj #[rawInt 17, rawInt 31, .ref c]), (c, oc)] := ⟨c, oc, ⟨vs, t, g2, g3⟩, .inl rfl⟩
      refine ⟨_, .inr hf, F', fun p hp => ?_, fun _ => hf⟩
      rcases List.mem_append.mp hp with hp | hp
      · rcases List.mem_cons.mp hp with e | hp
        · rw [e]; exact ⟨hc, Ne.symm hL44, h44⟩
        · rw [List.mem_singleton.mp hp]; exact ⟨g1, hcL, hb⟩
      · exact Nr p hp
    | some o =>
      have : o = oc := by have := F'.keep _ _ hb; rw [g1] at this; exact (Option.some.inj this).symm
      subst this
      have hf : FullLed h₀ [(44, tabObj #[rawInt 17, rawInt 31, .ref c])] := ⟨c, o, ⟨vs, t, g2, g3⟩, .inr ⟨rfl, hb⟩⟩
      refine ⟨_, .inr hf, F', fun p hp => ?_, fun _ => hf⟩
      rcases List.mem_append.mp hp with hp | hp
      · rw [List.mem_singleton.mp hp]; exact ⟨hc, Ne.symm hL44, h44⟩
      · exact Nr p hp
theorem led_dat {h₀ : Heap} {nx : List (Addr × Obj)} (x : TabLed h₀ nx) {l : Addr} : ∀ p ∈ nx, ∀ k : Int, p.2.data ≠ .fields #[.ref l, .int k 0] := by
  rcases x with e | ⟨c, oc, ⟨vs, t, h1, h2⟩, e | ⟨e, _⟩⟩
  · subst e; intro p hp k; rw [List.mem_singleton.mp hp]; intro h; cases h
  · subst e
    intro p hp k
    rcases List.mem_cons.mp hp with e | hp
    · rw [e]; intro h; cases h
    · rw [List.mem_singleton.mp hp]; intro h
      rw [show (c, oc).2.data = oc.data from rfl, h1] at h
      cases h
      cases h2
  · subst e; intro p hp k; rw [List.mem_singleton.mp hp]; intro h; cases h
section
variable {w : World} {A : Around} {E : Value → Shared → Prop} {s : Shared} {env : Env} {h₀ : Heap} {body : List Stmt} {Q : Flow → Shared → Prop} {m₀ : Str → Option Value}
def W1Fin (h₀ : Heap) (L : Addr) (m₀ : Str → Option Value) (own : List (Addr × Obj)) (s₁ s₂ : Shared) : Prop :=
  ∃ h' tk m' nx', s₂ = { s₁ with heap := h', toks := tk } ∧ Fr h₀ L h' m' ∧ News h₀ L h' (nx' ++ own) ∧ FullLed h₀ nx' ∧ (∀ z, z ≠ Str.ofString "word" → m' z = m₀ z)
def W1End (h₀ : Heap) (L : Addr) (m₀ : Str → Option Value) (own : List (Addr × Obj)) (s₁ : Shared) (Q : Flow → Shared → Prop) (f : Flow) (s₂ : Shared) : Prop :=
  match f with
  | .ret v => Q (.ret v) s₂
  | .brk => Q .next s₂
  | _ => W1Fin h₀ L m₀ own s₁ s₂
theorem w1_loop {L W : Addr} {ys : List Value} {ws : List (List Nat)} {st : List (Addr × Obj)} (hh : A.handled = none) (F : Fr h₀ L s.heap m₀) (N : News h₀ L s.heap ((W, lst ys) :: (st ++ [(44, tabObj #[])]))) (hL : env.locals = L) (hst : ∀ p ∈ st, ∀ o : Array Value, p.2.data ≠ .fields o)
    (hS : StrsAre ys (ws.map S)) (hG : ∀ wd ∈ ws, GoodW wd) (hn : 1 ≤ ws.length)
    (turn : ∀ (wd : List Nat) t (nx : List (Addr × Obj)) h tk own, GoodW wd → TabLed h₀ nx → (∀ p ∈ own, p.1 ≠ 44) → Fr h₀ L h (fun y => if y = Str.ofString "word" then some (.str (S wd) t) else m₀ y) → News h₀ L h (nx ++ own) →
      wpAny (model PG w) A (execs body env) (W1End h₀ L m₀ own { s with heap := h, toks := tk } Q) E { s with heap := h, toks := tk })
    (done : ∀ (nx : List (Addr × Obj)) (u : Str → Option Value) h tk, FullLed h₀ nx → Fr h₀ L h (fun y => if y = Str.ofString "word" then u y else m₀ y) → News h₀ L h (nx ++ (W, lst ys) :: st) → Q .next { s with heap := h, toks := tk }) :
    wpAny (model PG w) A (pyIter (.ref W)) (fun it s₂ => LoopAtV PG w A h₀ env (Str.ofString "word") body Q E it s₂) E s := by
  have hsz : ys.toArray.size = ws.length := by
    have := StrsAre.len_eq hS
    rw [List.length_map] at this; simpa using this
  refine for_listG (σ := List (Addr × Obj)) (its := ys.toArray) (st := (W, lst ys) :: st) (fun nx => nx) (fun i nx => (i = 0 ∧ nx = [(44, tabObj #[])]) ∨ FullLed h₀ nx) (fun z => z = Str.ofString "word") [(44, tabObj #[])] hh F (fun p hp => N p ?_) hL (.inr ⟨_, .head _, rfl, _, rfl⟩) (fun i c hc => led_dat (hc.elim (fun x => .inl x.2) .inr)) (.inl ⟨rfl, rfl⟩) rfl ?_ ?_
  · simp at hp ⊢; rcases hp with h | h | h <;> simp [h]
  · rintro i v nx m₁ h tk own hv hP hm hoff F₁ N₁
    obtain ⟨wd, t, hw, rfl⟩ := strs_getS (its := ys.toArray) (by simpa using hS) hv
    have hT : TabLed h₀ nx := hP.elim (fun x => .inl x.2) .inr
    have h44 : ∃ ps, (44, tabObj ps) ∈ nx := by
      rcases hT with e | ⟨c, oc, _, e | ⟨e, _⟩⟩ <;> subst e <;> exact ⟨_, .head _⟩
    obtain ⟨ps, hps⟩ := h44
    have g44 := (N₁ (44, tabObj ps) (List.mem_append_left _ hps)).1
    have hne : ∀ p ∈ (W, lst ys) :: st, p.1 ≠ 44 := by
      intro p hp e
      have g := (N₁ p (List.mem_append_right _ (List.mem_append_left _ hp))).1
      rw [e, g44] at g
      have g' := congrArg Obj.data (Option.some.inj g)
      rcases List.mem_cons.mp hp with hp | hp
      · rw [hp] at g'; cases g'
      · exact hst p hp _ g'.symm
    have hown : ∀ p ∈ ((W, lst ys) :: st) ++ own, p.1 ≠ 44 := by
      intro p hp
      rcases List.mem_append.mp hp with hp | hp
      · exact hne p hp
      · rcases hoff p hp with e | e
        · rw [e]; exact hne (W, lst ys) (.head _)
        · exact fun q => e _ hps q.symm
    have hf : (fun y => if y = Str.ofString "word" then some (Value.str (S wd) t) else m₁ y) = fun y => if y = Str.ofString "word" then some (.str (S wd) t) else m₀ y := funext fun y => by
      by_cases e1 : y = Str.ofString "word"
      · rw [if_pos e1, if_pos e1]
      · rw [if_neg e1, if_neg e1]; exact hm y e1
    rw [hf] at F₁
    refine wpAny_mono (turn wd t nx h tk _ (hG wd (List.mem_of_getElem? hw)) hT hown F₁ N₁) (fun f s₂ hq => ?_) fun _ _ e => e
    have fin : W1Fin h₀ L m₀ (((W, lst ys) :: st) ++ own) { s with heap := h, toks := tk } s₂ → StFin (σ := List (Addr × Obj)) (fun nx => nx) (fun nx => (i + 1 = 0 ∧ nx = [(44, tabObj #[])]) ∨ FullLed h₀ nx) (fun z => z = Str.ofString "word") h₀ L m₀ (((W, lst ys) :: st) ++ own) { s with heap := h, toks := tk } s₂ := by
      rintro ⟨h', tk', m', nx', e, F', N', g1, g2⟩
      exact ⟨h', tk', m', _, nx', e, F', N', fun p hp => List.mem_append_left _ hp, fun p hp => List.mem_append_right _ hp, .inr g1, g2⟩
    cases f with
    | ret v => exact hq
    | brk => exact hq
    | next => exact fin hq
    | cont => exact fin hq
  · rintro nx m₁ h tk hP hm F₁ N₁
    rw [hsz] at hP
    have hf : FullLed h₀ nx := hP.elim (fun x => by omega) id
    have e : m₁ = fun y => if y = Str.ofString "word" then m₁ y else m₀ y := funext fun y => by
      by_cases e1 : y = Str.ofString "word"
      · rw [if_pos e1]
      · rw [if_neg e1]; exact hm y e1
    exact done nx m₁ h tk hf (by rw [e] at F₁; exact F₁) N₁
end
section
variable {w : World} {A : Around} {E : Value → Shared → Prop} {s : Shared} {env : Env} {h₀ : Heap} {body : List Stmt} {Q : Flow → Shared → Prop} {m₀ : Str → Option Value}
theorem w1_loop1 {L W : Addr} {ys : List Value} {ws : List (List Nat)} {ca : Addr} {co : Obj} {cv : Option Value} {X : Int} (hh : A.handled = none) (F : Fr h₀ L s.heap m₀) (N : News h₀ L s.heap [(W, lst ys), (ca, co), (44, tabObj #[])]) (hL : env.locals = L) (hco : co.data = .cell cv)
    (hS : StrsAre ys (ws.map S)) (hG : ∀ wd ∈ ws, GoodW wd) (hn : ws.length = (1 + X.fmod 4).toNat) (hX : 1 ≤ (1 + X.fmod 4).toNat)
    (turn : ∀ (wd : List Nat) t (nx : List (Addr × Obj)) h tk own, GoodW wd → TabLed h₀ nx → (∀ p ∈ own, p.1 ≠ 44) → Fr h₀ L h (fun y => if y = Str.ofString "word" then some (.str (S wd) t) else m₀ y) → News h₀ L h (nx ++ own) →
      wpAny (model PG w) A (execs body env) (W1End h₀ L m₀ own { s with heap := h, toks := tk } Q) E { s with heap := h, toks := tk })
    (done : ∀ (nx : List (Addr × Obj)) (u : Str → Option Value) h tk, FullLed h₀ nx → Fr h₀ L h (fun y => if y = Str.ofString "word" then u y else m₀ y) → News h₀ L h ((W, lst ys) :: (ca, co) :: nx) → Q .next { s with heap := h, toks := tk }) :
    wpAny (model PG w) A (pyIter (.ref W)) (fun it s₂ => LoopAtV PG w A h₀ env (Str.ofString "word") body Q E it s₂) E s :=
  w1_loop (st := [(ca, co)]) hh F N hL (fun p hp o => by rw [List.mem_singleton.mp hp, hco]; exact fun h => nomatch h) hS hG (by omega) turn fun nx u h tk hf F' N' => done nx u h tk hf F' fun p hp => N' p (by simp at hp ⊢; rcases hp with h | h | h <;> simp [h])
end
section
variable {w : World} {mean : ExcName → Option Value} {mg mb : Str → Option Value} {A : Around} {dp un : Nat} {gd : Option (List Code)} {cn : Str} {cs : Scope} {a : Addr} {ccd : Value} {cl : List (Str × Addr)} {outer : List Env} {A₀ : Around} {base h₀ : Heap} {L : Addr} {m : Str → Option Value} {s : Shared} {Q E : Value → Shared → Prop} {news : List (Addr × Obj)}
theorem lw_quote {v : List Nat} {tv : Tok}
    (hA : A = ktrTop dp un gd cn cs L a ccd cl outer) (F : Fr h₀ L s.heap m) (B : Below A₀ base outer h₀) (X : (hd.heap_39 w.params).In h₀) (T : Top topProg LO mean mg mb h₀) (N : News h₀ L s.heap news) (hg : GoodW v) (hk : cs.kind = .function) (hd : dp + 1 < recursionLimit) (hu : un + 8 < cLine)
    (ret : ∀ t h' tk', Fr h₀ L h' m → News h₀ L h' news → Q (.str (S (quote v)) t) { s with heap := h', toks := tk' }) :
    wpAny (model PG w) A (call (.ref 37) [.str (S v) tv]) Q E s := by
  subst hA
  exact con_val (con_quote w mean mg mb v tv (by have := hg.1; omega)) B F X T N trivial hk hd (by omega) fun v' h' tk' F' N' ⟨t, e⟩ => e ▸ ret t h' tk' F' N'
theorem lw_quoteF {v : List Nat} {tv : Tok}
    (hA : A = ktrTop dp un gd cn cs L a ccd cl outer) (F : Fr h₀ L s.heap m) (B : Below A₀ base outer h₀) (X : (hd.heap_39 w.params).In h₀) (T : Top topProg LO mean mg mb h₀) (N : News h₀ L s.heap news) (hg : GoodW v) (hk : cs.kind = .function) (hd : dp + 1 < recursionLimit) (hu : un + 8 < cLine)
    (ret : ∀ t h' tk', Fr h₀ L h' m → News h₀ L h' news → Q (.str (S (quoteF v)) t) { s with heap := h', toks := tk' }) :
    wpAny (model PG w) A (call (.ref 37) [.str (S v) tv] [(Str.ofString "allow_token", .bool false)]) Q E s := by
  subst hA
  exact con_val (con_quoteF w mean mg mb v tv (by have := hg.1; omega)) B F X T N trivial hk hd (by omega) fun v' h' tk' F' N' ⟨t, e⟩ => e ▸ ret t h' tk' F' N'
theorem lw_unq {q r : List Nat} {tv : Tok} {nx own : List (Addr × Obj)} (hq : unq q = r) (hl : q.length ≤ 500)
    (hA : A = ktrTop dp un gd cn cs L a ccd cl outer) (F : Fr h₀ L s.heap m) (B : Below A₀ base outer h₀) (X : (hd.heap_39 w.params).In h₀) (T : Top topProg LO mean mg mb h₀) (N : News h₀ L s.heap (nx ++ own)) (hx : TabLed h₀ nx) (h44 : ∀ p ∈ own, p.1 ≠ 44) (hk : cs.kind = .function) (hd : dp + 2 < recursionLimit) (hu : un + 16 < cLine)
    (ret : ∀ t h' tk' nx', TabLed h₀ nx' → (isQ q → FullLed h₀ nx') → Fr h₀ L h' m → News h₀ L h' (nx' ++ own) → Q (.str (S r) t) { s with heap := h', toks := tk' }) :
    wpAny (model PG w) A (call (.ref 49) [.str (S q) tv]) Q E s := by
  subst hA hq
  refine con_unq w mean mg mb q tv hl dp un gd cn cs a ccd cl outer A₀ base h₀ L m s Q E B F X T (tab_pre hx F N).1 hk hd hu fun t h' tk' G hf => ?_
  obtain ⟨nx', h1, F', N', h2⟩ := tab_post hx F N h44 G
  exact ret t h' tk' nx' h1 (fun q => h2 (hf q)) F' N'
theorem lw_unq1 {v : List Nat} {tv : Tok} {nx own : List (Addr × Obj)} (hg : GoodW v)
    (hA : A = ktrTop dp un gd cn cs L a ccd cl outer) (F : Fr h₀ L s.heap m) (B : Below A₀ base outer h₀) (X : (hd.heap_39 w.params).In h₀) (T : Top topProg LO mean mg mb h₀) (N : News h₀ L s.heap (nx ++ own)) (hx : TabLed h₀ nx) (h44 : ∀ p ∈ own, p.1 ≠ 44) (hk : cs.kind = .function) (hd : dp + 2 < recursionLimit) (hu : un + 16 < cLine)
    (ret : ∀ t h' tk' nx', TabLed h₀ nx' → Fr h₀ L h' m → News h₀ L h' (nx' ++ own) → Q (.str (S v) t) { s with heap := h', toks := tk' }) :
    wpAny (model PG w) A (call (.ref 49) [.str (S (quote v)) tv]) Q E s :=
  lw_unq (unq_quote v) (by have := quote_len v; have := hg.1; omega) hA F B X T N hx h44 hk hd hu fun t h' tk' nx' h1 _ F' N' => ret t h' tk' nx' h1 F' N'
theorem isQ_quoteF (v : List Nat) : isQ (quoteF v) := by
  have h1 : (quoteF v).length = (esc v).length + 2 := by simp [quoteF]
  refine ⟨by omega, rfl, ?_⟩
  rw [h1]
  show (34 :: (esc v ++ [34])).drop ((esc v).length + 1) = [34]
  rw [List.drop_succ_cons, List.drop_left' rfl]
theorem lw_unq2 {v : List Nat} {tv : Tok} {nx own : List (Addr × Obj)} (hg : GoodW v)
    (hA : A = ktrTop dp un gd cn cs L a ccd cl outer) (F : Fr h₀ L s.heap m) (B : Below A₀ base outer h₀) (X : (hd.heap_39 w.params).In h₀) (T : Top topProg LO mean mg mb h₀) (N : News h₀ L s.heap (nx ++ own)) (hx : TabLed h₀ nx) (h44 : ∀ p ∈ own, p.1 ≠ 44) (hk : cs.kind = .function) (hd : dp + 2 < recursionLimit) (hu : un + 16 < cLine)
    (ret : ∀ t h' tk' nx', FullLed h₀ nx' → Fr h₀ L h' m → News h₀ L h' (nx' ++ own) → Q (.str (S v) t) { s with heap := h', toks := tk' }) :
    wpAny (model PG w) A (call (.ref 49) [.str (S (quoteF v)) tv]) Q E s :=
  lw_unq (unq_quoteF v) (by have := quoteF_len v; have := hg.1; omega) hA F B X T N hx h44 hk hd hu fun t h' tk' nx' _ h2 F' N' => ret t h' tk' nx' (h2 (isQ_quoteF v)) F' N'
theorem ne_same {prog : Program} {w : World} {A : Around} {E : Value → Shared → Prop} {s : Shared} {x : Str} {t u : Tok} {Q : Value → Shared → Prop} (h : Q (.bool false) s) : wpAny (model prog w) A (compareOp .NotEq (.str x t) (.str x u)) Q E s :=
  PyProof.Rows.ne_str (by rw [bne_self_eq_false]; exact h)
end
end Mine
end
section
open PySem PySem.W PyProof.Rows PySem.Calls PySem.Spec
namespace Mine
open LCg
theorem sl_sameAll : ∀ ns ms : List Str, PySem.Spec.sameAll (ns.map PyData.str) (ms.map PyData.str) = decide (ns = ms)
  | [], [] => by simp [PySem.Spec.sameAll]
  | [], _ :: _ => by simp [PySem.Spec.sameAll]
  | _ :: _, [] => by simp [PySem.Spec.sameAll]
  | a :: r, b :: t => by
    simp only [List.map_cons, PySem.Spec.sameAll, PySem.Spec.same, sl_sameAll r t]
    by_cases h : a = b <;> by_cases h' : r = t <;> simp [h, h']
theorem sl_carried : ∀ {vs : List Value} {ns : List Str}, StrsAre vs ns → CarriedAll vs (ns.map PyData.str)
  | _, _, .nil => .nil
  | _, _, .cons _ t r => .cons (.str _ t) (sl_carried r)
theorem sl_depth : ∀ ns : List Str, PyData.depthAll (ns.map PyData.str) = 0
  | [] => rfl
  | _ :: r => by simp [PyData.depthAll, PyData.depth, sl_depth r]
theorem sl_shaped {ns : List Str} (h : ns.all PyData.strOk = true) : SeqAt.shaped (.list (ns.map PyData.str)) = true := by
  simp [SeqAt.shaped, PyData.canLay0, PyData.depth, canLayAll_strs', sl_depth, h]
theorem good_ok {wd : List Nat} (h : GoodW wd) : PyData.strOk (S wd) = true := by
  have : ∀ c ∈ signsL, c < 0x110000 := by decide
  unfold PyData.strOk
  simp only [S, List.all_toArray, List.all_eq_true, decide_eq_true_eq]
  exact fun c hc => this c (h.2 c hc)
section
variable {prog : Program} {w : World} {A : Around} {E : Value → Shared → Prop} {s : Shared} {a b : Addr} {xs ys : List Value} {ws : List (List Nat)} {Q : Value → Shared → Prop}
/-- two lists of the same words are no unlike lists -/
theorem ne_words (ha : s.heap.IsList a xs.toArray) (hb : s.heap.IsList b ys.toArray) (hi : StrsAre xs (ws.map S)) (hj : StrsAre ys (ws.map S)) (hg : ∀ wd ∈ ws, GoodW wd) (hu : A.units + 64 < cLine) (h : Q (.bool false) s) :
    wpAny (model prog w) A (compareOp .NotEq (.ref a) (.ref b)) Q E s := by
  have hok : (ws.map S).all PyData.strOk = true := by
    rw [List.all_map, List.all_eq_true]; exact fun wd hw => good_ok (hg wd hw)
  refine ne_dataH_same (reads_newData ha (sl_carried hi)) (reads_newData hb (sl_carried hj)) (sl_shaped hok) (sl_shaped hok) hu (SeqAt.noMix_of_shape (.list .str) rfl _ _ (list_map_has fun _ => rfl) (list_map_has fun _ => rfl)) ?_
  have e : PySem.Spec.same (.list ((ws.map S).map PyData.str)) (.list ((ws.map S).map PyData.str)) = true := by
    simp only [PySem.Spec.same]; rw [sl_sameAll]; simp
  rw [e]; exact h
end
section
variable {prog : Program} {w : World} {A : Around} {E : Value → Shared → Prop} {s : Shared} {a b : Addr} {xs ys : List Value} {ws : List (List Nat)} {Q : Value → Shared → Prop} {h₀ : Heap} {L : Addr} {r : List (Addr × Obj)}
theorem ne_wordsN (N : News h₀ L s.heap ((a, lst xs) :: (b, lst ys) :: r)) (hi : StrsAre xs (ws.map S)) (hj : StrsAre ys (ws.map S)) (hg : ∀ wd ∈ ws, GoodW wd) (hu : A.units + 64 < cLine) (h : Q (.bool false) s) :
    wpAny (model prog w) A (compareOp .NotEq (.ref a) (.ref b)) Q E s :=
  ne_words ⟨_, (N (a, lst xs) (.head _)).1, rfl, _, rfl⟩ ⟨_, (N (b, lst ys) (.tail _ (.head _))).1, rfl, _, rfl⟩ hi hj hg hu h
end
end Mine
end
section
open PySem PySem.W PyProof.Rows PySem.Calls PySem.Spec
namespace Mine
open AutoSeq1 (wpAny_loadPart')
/-- two values that == finds alike, in this world -/
def EqW (prog : Program) (w : World) (A : Around) (s : Shared) (y x : Value) : Prop :=
  ∀ (E : Value → Shared → Prop) (Q : Bool → Shared → Prop), Q true s → wpAny (model prog w) A (eqBool y x) Q E s
section
variable {prog : Program} {w : World} {A : Around} {E : Value → Shared → Prop} {s : Shared}
theorem str_eqW (x : Str) (t u : Tok) : EqW prog w A s (.str x t) (.str x u) := fun E Q h => SeqAt.EqAt.str_str x t x u prog w E Q (by rw [beq_self_eq_true]; exact h)
theorem tup_eq {a b : Addr} {a1 a2 b1 b2 : Value} {Q : Value → Shared → Prop} (ha : s.heap.IsTuple a #[a1, a2]) (hb : s.heap.IsTuple b #[b1, b2]) (hu : A.units < cLine)
    (h1 : EqW prog w A.in1 s a1 b1) (h2 : EqW prog w A.in1 s a2 b2) (h : Q (.bool true) s) : wpAny (model prog w) A (compareOp .Eq (.ref a) (.ref b)) Q E s := by
  obtain ⟨⟨cls, dd, data, sl⟩, ho, hc, n, hd⟩ := id ha
  obtain ⟨⟨cls2, dd2, data2, sl2⟩, ho2, hc2, n2, hd2⟩ := id hb
  simp only at hc hd hc2 hd2
  subst hc hd hc2 hd2
  refine wpAny_richCompare_same_room (op := .Eq) ⟨_, ho, rfl⟩ ⟨_, ho2, rfl⟩ F.slot_tuple_eq (wpAny_call_entry F.slot_tuple_eq ⟨_, ho, rfl⟩ F.entry_tuple_eq ?_ (F.args_tuple_eq_2 _ _)) hu
  have f2 := AutoSeq1.sub_tuple_tuple
  obtain ⟨hp, g, d, tk, os⟩ := s
  wp_walk using wpAny_loadPart' ho, wpAny_loadPart' ho2, wpAny_forIn_list _ (fun rest b s' => b.1 = none ∧ s' = ⟨hp, g, d, tk, os⟩ ∧ ∀ p ∈ rest, EqW prog w A.in1 ⟨hp, g, d, tk, os⟩ p.1 p.2) _
  case turn =>
    rintro ⟨y, x⟩ rest b s' ⟨hb', rfl, hr⟩
    refine wpAny_bind (hr (y, x) (.head _) _ _ ?_)
    wp_walk
    exact ⟨rfl, rfl, fun p hp => hr p (.tail _ hp)⟩
  case fin =>
    rintro ⟨b1, b2⟩ s' ⟨hb', rfl, hr⟩
    simp only at hb'
    subst hb'
    wp_walk
    exact ⟨_, rfl, (fun x => nomatch x), by simpa [Builtin.Tuple.tupleCompareSizes] using h⟩
  case h =>
    refine ⟨rfl, rfl, fun p hp => ?_⟩
    have hp' : p = (a1, b1) ∨ p = (a2, b2) := by simpa using hp
    rcases hp' with rfl | rfl
    · exact h1
    · exact h2
theorem tup_ne {a b : Addr} {a1 a2 b1 b2 : Value} {Q : Value → Shared → Prop} (ha : s.heap.IsTuple a #[a1, a2]) (hb : s.heap.IsTuple b #[b1, b2]) (hu : A.units < cLine)
    (h1 : EqW prog w A.in1 s a1 b1) (h2 : EqW prog w A.in1 s a2 b2) (h : Q (.bool false) s) : wpAny (model prog w) A (compareOp .NotEq (.ref a) (.ref b)) Q E s := by
  obtain ⟨⟨cls, dd, data, sl⟩, ho, hc, n, hd⟩ := id ha
  obtain ⟨⟨cls2, dd2, data2, sl2⟩, ho2, hc2, n2, hd2⟩ := id hb
  simp only at hc hd hc2 hd2
  subst hc hd hc2 hd2
  refine wpAny_richCompare_same_room (op := .NotEq) ⟨_, ho, rfl⟩ ⟨_, ho2, rfl⟩ F.slot_tuple_ne (wpAny_call_entry F.slot_tuple_ne ⟨_, ho, rfl⟩ F.entry_tuple_ne ?_ (F.args_tuple_ne_2 _ _)) hu
  have f2 := AutoSeq1.sub_tuple_tuple
  obtain ⟨hp, g, d, tk, os⟩ := s
  wp_walk using wpAny_loadPart' ho, wpAny_loadPart' ho2, wpAny_forIn_list _ (fun rest b s' => b.1 = none ∧ s' = ⟨hp, g, d, tk, os⟩ ∧ ∀ p ∈ rest, EqW prog w A.in1 ⟨hp, g, d, tk, os⟩ p.1 p.2) _
  case turn =>
    rintro ⟨y, x⟩ rest b s' ⟨hb', rfl, hr⟩
    refine wpAny_bind (hr (y, x) (.head _) _ _ ?_)
    wp_walk
    exact ⟨rfl, rfl, fun p hp => hr p (.tail _ hp)⟩
  case fin =>
    rintro ⟨b1, b2⟩ s' ⟨hb', rfl, hr⟩
    simp only at hb'
    subst hb'
    wp_walk
    exact ⟨_, rfl, (fun x => nomatch x), by simpa [Builtin.Tuple.tupleCompareSizes] using h⟩
  case h =>
    refine ⟨rfl, rfl, fun p hp => ?_⟩
    have hp' : p = (a1, b1) ∨ p = (a2, b2) := by simpa using hp
    rcases hp' with rfl | rfl
    · exact h1
    · exact h2
/-- the rows of one dict stand in another -/
theorem rows_val : ∀ {kb : List (Str × Value)} {rb : List RowL}, RowsAre kb rb → (rb.map (·.1)).Nodup → ∀ {k : List Nat} {o : Option (List Nat)}, (k, o) ∈ rb → ∃ y, valueAt kb (S k) = some y ∧ valIs y o
  | [], _, h, _, k, o, hm => by cases h; cases hm
  | p :: kb, _, h, nd, k, o, hm => by
    obtain ⟨k', o', r', rfl, e, hv, h'⟩ := h.inv
    obtain ⟨p1, p2⟩ := p
    simp only at e hv
    subst e
    rw [List.map_cons] at nd
    have nd' := List.nodup_cons.mp nd
    by_cases hk : k' = k
    · subst hk
      have ho : o = o' := by
        rcases List.mem_cons.mp hm with e | hm
        · exact (Prod.mk.inj e).2
        · exact absurd (List.mem_map.mpr ⟨_, hm, rfl⟩) nd'.1
      subst ho
      exact ⟨p2, by unfold valueAt; rw [List.find?_cons_of_pos (by simp)]; rfl, hv⟩
    · have hm' : (k, o) ∈ r' := by
        rcases List.mem_cons.mp hm with e | hm
        · exact absurd (Prod.mk.inj e).1.symm hk
        · exact hm
      obtain ⟨y, hy, hv'⟩ := rows_val h' nd'.2 hm'
      refine ⟨y, ?_, hv'⟩
      unfold valueAt at hy ⊢
      rw [List.find?_cons_of_neg (by simpa using fun e => hk (S_inj e))]; exact hy
theorem val_eq {v y : Value} {o : Option (List Nat)} (hv : valIs v o) (hy : valIs y o) : SeqAt.EqAt A s v y true := by
  cases o with
  | none => cases hv; cases hy; exact SeqAt.EqAt.same _
  | some x =>
    obtain ⟨t, rfl⟩ := hv
    obtain ⟨u, rfl⟩ := hy
    have := SeqAt.EqAt.str_str (A := A) (s := s) (S x) t (S x) u
    rwa [beq_self_eq_true] at this
theorem rows_hits {kb : List (Str × Value)} {rb : List RowL} (hb : RowsAre kb rb) (nd : (rb.map (·.1)).Nodup) : ∀ {ka : List (Str × Value)} {ra : List RowL}, RowsAre ka ra → (∀ r ∈ ra, r ∈ rb) → KeqHits A s kb ka true
  | [], _, h, _ => .nil
  | p :: ka, _, h, hs => by
    obtain ⟨k, o, r, rfl, e, hv, h'⟩ := h.inv
    obtain ⟨p1, p2⟩ := p
    simp only at e hv
    subst e
    obtain ⟨y, hy, hvy⟩ := rows_val hb nd (hs (k, o) (.head _))
    exact .hit hy (val_eq hv hvy) (rows_hits hb nd h' fun r hr => hs r (.tail _ hr))
/-- two dicts of the same rows -/
def SameR (ra rb : List RowL) : Prop := ra.length = rb.length ∧ (rb.map (·.1)).Nodup ∧ ∀ r ∈ ra, r ∈ rb
theorem SameR.refl {r : List RowL} (h : (r.map (·.1)).Nodup) : SameR r r := ⟨rfl, h, fun _ x => x⟩
theorem dict_ne {a b : Addr} {ka kb : List (Str × Value)} {ra rb : List RowL} {Q : Value → Shared → Prop} (la : (a == sysModules) = false) (lb : (b == sysModules) = false) (da : s.heap.DictOf (PySem.strKind prog w) a ka) (db : s.heap.DictOf (PySem.strKind prog w) b kb) (hu : A.units < cLine)
    (hA : RowsAre ka ra) (hB : RowsAre kb rb) (hS : SameR ra rb) (h : Q (.bool false) s) : wpAny (model prog w) A (compareOp .NotEq (.ref a) (.ref b)) Q E s :=
  keq_ne la lb da db hu (fun _ => rows_hits hB hS.2.1 hA hS.2.2) (by rw [hA.len, hB.len, hS.1, beq_self_eq_true]; exact h)
theorem dict_eqW {a b : Addr} {ka kb : List (Str × Value)} {ra rb : List RowL} (la : (a == sysModules) = false) (lb : (b == sysModules) = false) (da : s.heap.DictOf (PySem.strKind prog w) a ka) (db : s.heap.DictOf (PySem.strKind prog w) b kb) (hu : A.units < cLine)
    (hA : RowsAre ka ra) (hB : RowsAre kb rb) (hS : SameR ra rb) : EqW prog w A s (.ref a) (.ref b) := fun E Q h => by
  by_cases hab : a = b
  · subst hab; exact SeqAt.EqAt.same _ prog w E Q h
  · unfold eqBool
    refine wpAny_holding ?_
    refine wpAny_ite_split (fun e => absurd (by have := eq_of_beq e; injection this) hab) (fun _ => ?_)
    refine wpAny_bind (keq_eq la lb da db hu (fun _ => rows_hits hB hS.2.1 hA hS.2.2) ?_)
    rw [hA.len, hB.len, hS.1, beq_self_eq_true]
    exact wpAny_truthy_bool h
end
end Mine
end
section
open PySem PySem.W PyProof.Rows PySem.Calls PySem.Spec
namespace Mine
open LCg LCt RE
section
variable {w : World} {mean : ExcName → Option Value} {mg mb : Str → Option Value} {A : Around} {dp un : Nat} {gd : Option (List Code)} {cn : Str} {cs : Scope} {a : Addr} {ccd : Value} {cl : List (Str × Addr)} {outer : List Env} {A₀ : Around} {base h₀ : Heap} {L : Addr} {m : Str → Option Value} {s : Shared} {Q E : Value → Shared → Prop} {news : List (Addr × Obj)}
theorem join_len {sep : List Nat} {ws : List (List Nat)} (hs : sep.length ≤ 5) (hg : ∀ wd ∈ ws, GoodW wd) (hn : ws.length ≤ 4) : (joinL sep (ws.map quote)).length ≤ 68 := by
  have h1 := join_le sep 12 (ws.map quote) (fun q hq => by
    obtain ⟨x, hx, rfl⟩ := List.mem_map.mp hq
    have := quote_len x; have := (hg x hx).1; omega)
  rw [List.length_map] at h1
  have : ws.length * (12 + sep.length) ≤ 4 * 17 := Nat.mul_le_mul hn (by omega)
  omega
theorem cs_c : Str.ofString ", " = S [44, 32] := by decide +kernel
theorem wide_c : Str.ofString " ,, \t" = S [32, 44, 44, 32, 9] := by decide +kernel
theorem sp_c : Str.ofString " , " = S [32, 44, 32] := by decide +kernel
theorem cm_c : Str.ofString "," = S [44] := by decide +kernel
/-- the widened text, and what is read out of it -/
theorem law_rep {ws : List (List Nat)} {t u v : Tok} (hu : @Ne Nat u 0) (hv : @Ne Nat v 0) (huv : @Ne Nat u v) (hw : ∀ wd ∈ ws, 44 ∉ wd) (hg : ∀ wd ∈ ws, GoodW wd) (hn : ws.length ≤ 4)
    (h : ∀ x t' k, x.length ≤ 68 → parseL (([32, 44, 32] ++ x) ++ [44]) = ws → Q (.str (S x) t') { s with toks := k }) :
    wpAny (model PG w) A (call (.builtin "str.replace") [.str (S (joinL [44, 32] (ws.map quote))) t, .str (Str.ofString ", ") u, .str (Str.ofString " ,, \t") v]) Q E s := by
  obtain ⟨x, h1, h2, h3⟩ := law_plain hw
  rw [cs_c, wide_c]
  refine SC.replaceW hu hv huv (by decide +kernel) (by rw [S_len]; exact Nat.le_trans (join_len (by decide) hg hn) (by decide)) (by decide +kernel) fun t' k => ?_
  rw [h1]
  exact h x t' k (by rw [h2]; exact join_len (by decide) hg hn) (by rw [List.append_assoc]; exact h3)
theorem cat_W {prog : Program} {xs ys : Str} {x y : List Nat} {t u : Tok} (hx : xs = S x) (hy : ys = S y) (h1 : x.length ≤ 400) (h2 : y.length ≤ 400) (h : ∀ t' k, Q (.str (S (x ++ y)) t') { s with toks := k }) :
    wpAny (model prog w) A (binaryOp .Add (.str xs t) (.str ys u)) Q E s := by
  subst hx hy
  exact PyProof.Rows.add_str (fun t' k => by rw [S_app]; exact h t' k) (by rw [S_len, S_len]; exact Nat.le_trans (Nat.add_le_add h1 h2) (by decide))
/-- a positive number of tokens stays positive -/
theorem keep_pos {M : Model} {c : Sem Value} (h0 : 0 < s.toks) (h : wpAny M A c (fun a s' => 1 ≤ s'.toks → Q a s') E s) : wpAny M A c Q E s :=
  wpAny_with_toks (n := 1) h0 (wpAny_mono h (fun _ _ x => x) (fun _ _ x _ => x))
theorem lw_dumpP {D : Addr} {ys : List Value} {ws : List (List Nat)} (h0 : 0 < s.toks)
    (hA : A = ktrTop dp un gd cn cs L a ccd cl outer) (F : Fr h₀ L s.heap m) (B : Below A₀ base outer h₀) (X : (hd.heap_39 w.params).In h₀) (T : Top topProg LO mean mg mb h₀) (N : News h₀ L s.heap news) (hm : (D, lst ys) ∈ news) (hS : StrsAre ys (ws.map S)) (hg : ∀ wd ∈ ws, GoodW wd) (hn : ws.length ≤ 4) (hk : cs.kind = .function) (hd : dp + 2 < recursionLimit) (hu : un + 16 < cLine)
    (ret : ∀ t h' tk', 0 < tk' → Fr h₀ L h' m → News h₀ L h' news → Q (.str (S (joinL [44, 32] (ws.map quote))) t) { s with heap := h', toks := tk' }) :
    wpAny (model PG w) A (call (.ref 61) [.ref D]) Q E s := by
  subst hA
  exact keep_pos h0 (con_val (con_dump w mean mg mb D ys.toArray ws (by simpa using hS) hn (fun wd hw => by have := (hg wd hw).1; omega)) B F X T N ⟨_, (N _ hm).1, rfl, _, rfl⟩ hk hd (by omega) fun v' h' tk' F' N' ⟨t, e⟩ hp => e ▸ ret t h' tk' hp F' N')
end
end Mine
end
section
open PySem PySem.W PyProof.Rows PySem.Calls PySem.Spec
namespace Mine
open RE LCg
/-- the law's table after i turns -/
def JsG (i : Nat) (js : Js) : Prop := js.map (·.1) = List.range i ∧ ∀ x ∈ js, ∀ wd, x.2 = some wd → GoodW wd
theorem JsG.nil : JsG 0 [] := ⟨rfl, fun _ h => nomatch h⟩
theorem JsG.push {i : Nat} {js : Js} {o : Option (List Nat)} (h : JsG i js) (ho : ∀ wd, o = some wd → GoodW wd) : JsG (i + 1) (js ++ [(i, o)]) := by
  refine ⟨by rw [List.map_append, h.1, List.range_succ]; rfl, fun x hx => ?_⟩
  rcases List.mem_append.mp hx with hx | hx
  · exact h.2 x hx
  · rw [List.mem_singleton.mp hx]; exact ho
theorem JsG.len {i : Nat} {js : Js} (h : JsG i js) : js.length = i := by
  have := congrArg List.length h.1
  simpa using this
theorem JsG.lt {i : Nat} {js : Js} (h : JsG i js) : ∀ x ∈ js, x.1 < i := fun x hx => by
  have : x.1 ∈ js.map (·.1) := List.mem_map.mpr ⟨x, hx, rfl⟩
  rw [h.1] at this
  exact List.mem_range.mp this
theorem JsG.ok {i : Nat} {js : Js} (h : JsG i js) (hi : i ≤ 4) : JsOk js :=
  ⟨fun x hx => Nat.lt_of_lt_of_le (h.lt x hx) hi, by rw [h.1]; exact List.nodup_range⟩
theorem ss_mem : ∀ {js : Js} {s : Nat × List Nat}, s ∈ ssOf js → (s.1, some s.2) ∈ js
  | (j, none) :: r, s, h => .tail _ (ss_mem (js := r) h)
  | (j, some w) :: r, s, h => by
    rcases List.mem_cons.mp h with e | h
    · rw [e]; exact .head _
    · exact .tail _ (ss_mem (js := r) h)
theorem ss_app : ∀ (a b : Js), ssOf (a ++ b) = ssOf a ++ ssOf b
  | [], _ => rfl
  | (j, none) :: r, b => ss_app r b
  | (j, some w) :: r, b => by show (j, w) :: ssOf (r ++ b) = _; rw [ss_app r b]; rfl
theorem put_tab {i : Nat} {js : Js} {o : Option (List Nat)} (h : JsG i js) : putR (rowsOf js) (keyN i) o = rowsOf (js ++ [(i, o)]) := by
  rw [put_new]
  · simp [rowsOf]
  · intro hm
    obtain ⟨r, hr, e⟩ := List.mem_map.mp hm
    obtain ⟨x, hx, rfl⟩ := List.mem_map.mp hr
    exact Nat.ne_of_lt (h.lt x hx) (keyN_inj e)
theorem put_opt {i : Nat} {js : Js} {w : List Nat} (h : JsG i js) : putR (optsOf (ssOf js)) (keyN i) (some w) = optsOf (ssOf (js ++ [(i, some w)])) := by
  rw [put_new, ss_app]
  · simp [optsOf, ssOf]
  · intro hm
    obtain ⟨r, hr, e⟩ := List.mem_map.mp hm
    obtain ⟨x, hx, rfl⟩ := List.mem_map.mp hr
    exact Nat.ne_of_lt (h.lt _ (ss_mem hx)) (keyN_inj e)
theorem opt_none {i : Nat} {js : Js} : optsOf (ssOf (js ++ [(i, none)])) = optsOf (ssOf js) := by
  rw [ss_app]; simp [optsOf, ssOf]
theorem rowsOf_len (js : Js) : (rowsOf js).length = js.length := by simp [rowsOf]
theorem ssOf_le : ∀ js : Js, (ssOf js).length ≤ js.length
  | [] => Nat.le_refl _
  | (j, none) :: r => Nat.le_succ_of_le (ssOf_le r)
  | (j, some w) :: r => Nat.succ_le_succ (ssOf_le r)
section
variable {w : World} {A : Around} {E : Value → Shared → Prop} {s : Shared} {env : Env} {h₀ : Heap} {body : List Stmt} {m₀ : Str → Option Value} {L T O : Addr} {ot oo : Obj} {kt ko : List (Str × Value)} {js : Js} {i : Nat} {own : List (Addr × Obj)} {m : Str → Option Value}
theorem set_tab {Q : Unit → Shared → Prop} {v : Value} {ov : Option (List Nat)} {t : Tok} (F : Fr h₀ L s.heap m) (N : News h₀ L s.heap ((T, ot) :: (O, oo) :: own)) (off : OwnOff ((O, oo) :: own) [T]) (hd : ot.IsDictOf (PySem.strKind PG w) kt) (hR : RowsAre kt (rowsOf js)) (hJ : JsG i js) (hi : i < 4) (hv : valIs v ov)
    (h : ∀ h' ot' kt' tk', Fr h₀ L h' m → News h₀ L h' ((T, ot') :: (O, oo) :: own) → ot'.IsDictOf (PySem.strKind PG w) kt' → RowsAre kt' (rowsOf (js ++ [(i, ov)])) → Q () { s with heap := h', toks := tk' }) :
    wpAny (model PG w) A (setItem (.ref T) (.str (S (keyN i)) t) v) Q E s :=
  set_row F N off hd hR (by rw [rowsOf_len, hJ.len]; omega) hv fun h' o' kvs' tk' F' N' hd' hR' => h h' o' kvs' tk' F' N' hd' (put_tab hJ ▸ hR')
theorem set_opt {Q : Unit → Shared → Prop} {wd : List Nat} {t u : Tok} (F : Fr h₀ L s.heap m) (N : News h₀ L s.heap ((T, ot) :: (O, oo) :: own)) (off : OwnOff ((O, oo) :: own) [T]) (offO : OwnOff own [O]) (hd : oo.IsDictOf (PySem.strKind PG w) ko) (hR : RowsAre ko (optsOf (ssOf js))) (hJ : JsG i js) (hi : i < 4)
    (h : ∀ h' oo' ko' tk', Fr h₀ L h' m → News h₀ L h' ((T, ot) :: (O, oo') :: own) → oo'.IsDictOf (PySem.strKind PG w) ko' → RowsAre ko' (optsOf (ssOf (js ++ [(i, some wd)]))) → Q () { s with heap := h', toks := tk' }) :
    wpAny (model PG w) A (setItem (.ref O) (.str (S (keyN i)) t) (.str (S wd) u)) Q E s := by
  refine set_row (own := (T, ot) :: own) F (fun p hp => N p ?_) ?_ hd hR ?_ (ov := some wd) ⟨_, rfl⟩ fun h' o' kvs' tk' F' N' hd' hR' => h h' o' kvs' tk' F' (fun p hp => N' p ?_) hd' (put_opt hJ ▸ hR')
  · simp only [List.mem_append, List.mem_cons, List.not_mem_nil, or_false] at hp ⊢
    rcases hp with h | h | h <;> simp [h]
  · intro p hp b hb
    rw [List.mem_singleton.mp hb]
    rcases List.mem_cons.mp hp with e | hp
    · rw [e]; exact fun e => off (O, oo) (.head _) T (.head _) e.symm
    · exact offO p hp O (.head _)
  · have := ssOf_le js
    have := hJ.len
    simp only [optsOf, List.length_map]; omega
  · simp only [List.mem_append, List.mem_cons, List.not_mem_nil, or_false] at hp ⊢
    rcases hp with h | h | h <;> simp [h]
def EnFin (h₀ : Heap) (L T O : Addr) (m₀ : Str → Option Value) (own : List (Addr × Obj)) (w : World) (i : Nat) (s₁ s₂ : Shared) : Prop :=
  ∃ h' tk m' news' ot oo kt ko js, s₂ = { s₁ with heap := h', toks := tk } ∧ Fr h₀ L h' m' ∧ News h₀ L h' news' ∧ (T, ot) ∈ news' ∧ (O, oo) ∈ news' ∧ (∀ p ∈ own, p ∈ news') ∧ ot.IsDictOf (PySem.strKind PG w) kt ∧ oo.IsDictOf (PySem.strKind PG w) ko ∧
    RowsAre kt (rowsOf js) ∧ RowsAre ko (optsOf (ssOf js)) ∧ JsG (i + 1) js ∧ (∀ z, z ≠ Str.ofString "k" → z ≠ Str.ofString "word" → m' z = m₀ z)
def EnEnd (h₀ : Heap) (L T O : Addr) (m₀ : Str → Option Value) (own : List (Addr × Obj)) (w : World) (i : Nat) (s₁ : Shared) (Q : Flow → Shared → Prop) (f : Flow) (s₂ : Shared) : Prop :=
  match f with
  | .ret v => Q (.ret v) s₂
  | .brk => Q .next s₂
  | _ => EnFin h₀ L T O m₀ own w i s₁ s₂
theorem en_mid {u m₀ : Str → Option Value} (h : ∀ z, z ≠ Str.ofString "k" → z ≠ Str.ofString "word" → u z = m₀ z) {a b : Option Value} : (fun y => if y = Str.ofString "word" then a else if y = Str.ofString "k" then b else u y) = fun y => if y = Str.ofString "word" then a else if y = Str.ofString "k" then b else m₀ y := funext fun y => by
  by_cases h1 : y = Str.ofString "word"
  · rw [if_pos h1, if_pos h1]
  · rw [if_neg h1, if_neg h1]
    by_cases h2 : y = Str.ofString "k"
    · rw [if_pos h2, if_pos h2]
    · rw [if_neg h2, if_neg h2]; exact h y h2 h1
theorem en_out {u m₀ : Str → Option Value} (h : ∀ z, z ≠ Str.ofString "k" → z ≠ Str.ofString "word" → u z = m₀ z) : u = fun y => if y = Str.ofString "word" then u y else if y = Str.ofString "k" then u y else m₀ y := funext fun y => by
  by_cases h1 : y = Str.ofString "word"
  · rw [if_pos h1]
  · rw [if_neg h1]
    by_cases h2 : y = Str.ofString "k"
    · rw [if_pos h2]
    · rw [if_neg h2]; exact h y h2 h1
/-- the law's second loop: the table and the options are filled -/
theorem en_loop {Q : Flow → Shared → Prop} {W : Addr} {ys : List Value} {ws : List (List Nat)} {rest : List (Addr × Obj)} {pk pv pt : Pos} {x1 : Nat}
    (hh : A.handled = none) (F : Fr h₀ L s.heap m₀) (N : News h₀ L s.heap ((T, ot) :: (O, oo) :: rest)) (hL : env.locals = L) (off : OwnOff ((O, oo) :: rest) [T]) (offO : OwnOff rest [O]) (hW : (W, lst ys) ∈ rest)
    (hS : StrsAre ys (ws.map S)) (hG : ∀ wd ∈ ws, GoodW wd) (hn : ws.length ≤ 4) (hdt : ot.IsDictOf (PySem.strKind PG w) []) (hdo : oo.IsDictOf (PySem.strKind PG w) [])
    (turn : ∀ (i : Nat) (wd : List Nat) ti u (ot oo : Obj) (kt ko : List (Str × Value)) (js : Js) h tk own, i < 4 → GoodW wd → ot.IsDictOf (PySem.strKind PG w) kt → oo.IsDictOf (PySem.strKind PG w) ko → RowsAre kt (rowsOf js) → RowsAre ko (optsOf (ssOf js)) → JsG i js → OwnOff ((O, oo) :: own) [T] → OwnOff own [O] → (∀ p ∈ rest, p ∈ own) →
      Fr h₀ L h (fun y => if y = Str.ofString "word" then some (.str (S wd) u) else if y = Str.ofString "k" then some (.int (i : Int) ti) else m₀ y) → News h₀ L h ((T, ot) :: (O, oo) :: own) →
      wpAny (model PG w) A (execs body env) (EnEnd h₀ L T O m₀ own w i { s with heap := h, toks := tk } Q) E { s with heap := h, toks := tk })
    (done : ∀ (ot oo : Obj) (kt ko : List (Str × Value)) (js : Js) (u : Str → Option Value) h tk, ot.IsDictOf (PySem.strKind PG w) kt → oo.IsDictOf (PySem.strKind PG w) ko → RowsAre kt (rowsOf js) → RowsAre ko (optsOf (ssOf js)) → JsG ws.length js →
      Fr h₀ L h (fun y => if y = Str.ofString "word" then u y else if y = Str.ofString "k" then u y else m₀ y) → News h₀ L h ((T, ot) :: (O, oo) :: rest) → Q .next { s with heap := h, toks := tk })
    (hxk : env.kindOf (Str.ofString "k") = some .local) (hxv : env.kindOf (Str.ofString "word") = some .local)
    (hp : (env.scope.kind == .class || (env.scope.kind == .module && env.locals != env.globals)) = false) :
    wpAny (model PG w) A (call (.type "enumerate") [.ref W]) (fun xv s₁ => wpAny (model PG w) A (pyIter xv) (fun it s₂ => TurnsAt PG w A h₀ env (.Tuple [.Name (Str.ofString "k") pk, .Name (Str.ofString "word") pv] x1 pt) body Q E it s₂) E s₁) E s := by
  subst hL
  have hax := N (W, lst ys) (.tail _ (.tail _ hW))
  have hl : s.heap.IsList W ys.toArray := ⟨_, hax.1, rfl, _, rfl⟩
  have hlt : W < s.heap.objs.size := Heap.lt_size hax.1
  have hsz : ys.toArray.size = ws.length := by
    have := StrsAre.len_eq hS
    rw [List.length_map] at this; simpa using this
  refine call_enumerate_list hl fun h' hE hI hsz' hk => ?_
  refine wpAny_pyIter_enum hE ?_
  let J : Nat → (Str → Option Value) → List (Addr × Obj) → Prop := fun i m' nx => ∃ ot oo kt ko js, nx = (T, ot) :: (O, oo) :: rest ∧ ot.IsDictOf (PySem.strKind PG w) kt ∧ oo.IsDictOf (PySem.strKind PG w) ko ∧ RowsAre kt (rowsOf js) ∧ RowsAre ko (optsOf (ssOf js)) ∧ JsG i js ∧ ∀ z, z ≠ Str.ofString "k" → z ≠ Str.ofString "word" → m' z = m₀ z
  have hIn : ∀ p ∈ (T, ot) :: (O, oo) :: rest, p.1 < s.heap.objs.size := fun p hp => Heap.lt_size (N p hp).1
  have hwr : ∀ ot oo, ∀ p ∈ (T, ot) :: (O, oo) :: rest, p.1 ∉ [s.heap.objs.size + 1, s.heap.objs.size] := by
    intro ot' oo' p hp hm
    have : p.1 < s.heap.objs.size := by
      rcases List.mem_cons.mp hp with e | hp
      · rw [e]; exact hIn (T, ot) (.head _)
      · rcases List.mem_cons.mp hp with e | hp
        · rw [e]; exact hIn (O, oo) (.tail _ (.head _))
        · exact hIn p (.tail _ (.tail _ hp))
    rcases List.mem_cons.mp hm with e | hm
    · rw [e] at this; exact absurd this (Nat.not_lt.mpr (Nat.le_add_right _ _))
    · rw [List.mem_singleton.mp hm] at this; exact absurd this (Nat.lt_irrefl _)
  have hne1 : W ≠ s.heap.objs.size + 1 := ktu_ne 1 hlt
  have hLs : env.locals < s.heap.objs.size := F.ns.lt
  refine ⟨s.heap.objs.size + 1, [s.heap.objs.size + 1, s.heap.objs.size, W], [s.heap.objs.size + 1, s.heap.objs.size], ys.toArray.size, _, _, _, m₀, (T, ot) :: (O, oo) :: rest, J, rfl, KTurns.ofWalksU (WalksT.enumerate hh (s.heap.objs.size + 1) s.heap.objs.size W (Nat.succ_ne_self _) hne1 (Nat.ne_of_lt hlt) ys.toArray).toU, ?_, ?_, hwr ot oo, ⟨⟨.none, hE⟩, hI, hl.at fun o e => hk W o e⟩, F.keeps hk, N.grown hk, ⟨ot, oo, [], [], [], rfl, hdt, hdo, .nil, .nil, JsG.nil, fun _ _ _ => rfl⟩, ?_, ?_⟩
  · intro hm
    simp only [List.mem_cons, List.not_mem_nil, or_false] at hm
    rcases hm with e | e | e
    · exact ktu_ne 1 hLs e
    · exact Nat.ne_of_lt hLs e
    · exact hax.2.1 e.symm
  · intro b hb
    simp only [List.mem_cons, List.not_mem_nil, or_false] at hb
    rcases hb with rfl | rfl
    · exact ktu_new F (Nat.le_add_right _ _)
    · exact ktu_new F (Nat.le_refl _)
  · rintro i v m₁ news₁ h₁ tk₁ own hin ⟨Tp, vals, rfl, ⟨t, x, hx, rfl⟩, hTup⟩ ⟨ot₁, oo₁, kt, ko, js, rfl, hd₁, hd₂, hR₁, hR₂, hJ₁, hm₁⟩ hnw₁ hown hget hall hst₁ F₁ N₁
    obtain ⟨wd, u, hwd, rfl⟩ := strs_getS (its := ys.toArray) (by simpa using hS) hx
    refine wpAny_assign_Tuple hh hTup rfl rfl fun h₃ hx₃ => ?_
    replace hx₃ : Heap.ExtBut h₁.objs.size h₁ h₃ := hx₃
    have up₃ : ∀ b o, h₁.get? b = some o → h₃.get? b = some o := fun b o e => hx₃ b o (Nat.ne_of_lt (Heap.lt_size e)) e
    have F₃ : Fr h₀ env.locals h₃ m₁ := ⟨F₁.ns.at fun o x => up₃ _ o x, fun b o e => up₃ b o (F₁.keep b o e), F₁.above⟩
    have N₃ : News h₀ env.locals h₃ (own ++ ((T, ot₁) :: (O, oo₁) :: rest)) := fun p hp => ⟨up₃ _ _ (N₁ p hp).1, (N₁ p hp).2⟩
    show wpAny _ _ (do holding [Value.str (S wd) u] (assign (.Name (Str.ofString "k") pk) env (.int (i : Int) t)); do holding [] (assign (.Name (Str.ofString "word") pv) env (.str (S wd) u)); pure ()) _ _ _
    refine wpAny_bind (wpAny_holding (wpAny_assign_Name (wpAny_storeName_local hxk F₃.ns (fun h₄ hn₄ hs₄ => ?_) hp)))
    replace hs₄ : Heap.SameBut env.locals h₃ h₄ := hs₄
    have F₄ := F₃.set hn₄ hs₄
    refine wpAny_bind (wpAny_holding (wpAny_assign_Name (wpAny_storeName_local hxv F₄.ns (fun h₅ hn₅ hs₅ => wpAny_pure ?_) hp)))
    replace hs₅ : Heap.SameBut env.locals h₄ h₅ := hs₅
    have F₅ : Fr h₀ env.locals h₅ (fun y => if y = Str.ofString "word" then some (.str (S wd) u) else if y = Str.ofString "k" then some (.int (i : Int) t) else m₁ y) := F₄.set hn₅ hs₅
    have N₅ : News h₀ env.locals h₅ (own ++ ((T, ot₁) :: (O, oo₁) :: rest)) := (N₃.set hs₄).set hs₅
    rw [en_mid hm₁] at F₅
    have N₆ : News h₀ env.locals h₅ ((T, ot₁) :: (O, oo₁) :: (rest ++ own)) := fun p hp => N₅ p (by simp only [List.mem_append, List.mem_cons] at hp ⊢; rcases hp with h | h | h | h <;> simp [h])
    have hTW : W ≠ T := off (W, lst ys) (.tail _ hW) T (.head _)
    have hOW : W ≠ O := offO (W, lst ys) hW O (.head _)
    have hTwr := hnw₁ (T, ot₁) (.head _)
    have hOwr := hnw₁ (O, oo₁) (.tail _ (.head _))
    have hownT : ∀ p ∈ own, p.1 ≠ T := by
      intro p hp e
      have h1 := hown p hp
      simp only [List.mem_cons, List.not_mem_nil, or_false] at h1 hTwr
      rcases h1 with h1 | h1 | h1
      · exact hTwr (.inl (by rw [← e, h1]))
      · exact hTwr (.inr (by rw [← e, h1]))
      · exact hTW (by rw [← h1, e])
    have hownO : ∀ p ∈ own, p.1 ≠ O := by
      intro p hp e
      have h1 := hown p hp
      simp only [List.mem_cons, List.not_mem_nil, or_false] at h1 hOwr
      rcases h1 with h1 | h1 | h1
      · exact hOwr (.inl (by rw [← e, h1]))
      · exact hOwr (.inr (by rw [← e, h1]))
      · exact hOW (by rw [← h1, e])
    have hoff : OwnOff ((O, oo₁) :: (rest ++ own)) [T] := by
      intro p hp b hb
      rw [List.mem_singleton.mp hb]
      rcases List.mem_cons.mp hp with e | hp
      · rw [e]; exact off (O, oo) (.head _) T (.head _)
      · rcases List.mem_append.mp hp with hp | hp
        · exact off p (.tail _ hp) T (.head _)
        · exact hownT p hp
    have hoffO : OwnOff (rest ++ own) [O] := by
      intro p hp b hb
      rw [List.mem_singleton.mp hb]
      rcases List.mem_append.mp hp with hp | hp
      · exact offO p hp O (.head _)
      · exact hownO p hp
    have hin' : i < 4 := by rw [hsz] at hin; omega
    refine wpAny_mono (turn i wd t u ot₁ oo₁ kt ko js h₅ _ _ hin' (hG wd (List.mem_of_getElem? hwd)) hd₁ hd₂ hR₁ hR₂ hJ₁ hoff hoffO (fun p hp => List.mem_append_left _ hp) F₅ N₆) (fun fl s₂ hq' => ?_) fun _ _ e => e
    have fin : ∀ s₁ s₂, EnFin h₀ env.locals T O m₀ (rest ++ own) w i s₁ s₂ → LoopStepU h₀ env.locals [s.heap.objs.size + 1, s.heap.objs.size] own (J (i + 1)) s₁ .next s₂ := by
      rintro s₁ s₂ ⟨h', tk', m', news', ot', oo', kt', ko', js', rfl, F', N', g1, g2, g3, g4, g5, g6, g7, g8, g9⟩
      refine ⟨rfl, h', tk', m', (T, ot') :: (O, oo') :: rest, rfl, F', ?_, hwr ot' oo', ot', oo', kt', ko', js', rfl, g4, g5, g6, g7, g8, g9⟩
      intro p hp
      rcases List.mem_append.mp hp with hp | hp
      · exact N' p (g3 p (List.mem_append_right _ hp))
      · rcases List.mem_cons.mp hp with e | hp
        · rw [e]; exact N' _ g1
        · rcases List.mem_cons.mp hp with e | hp
          · rw [e]; exact N' _ g2
          · exact N' p (g3 p (List.mem_append_left _ hp))
    cases fl with
    | ret v => exact .ret hq'
    | brk => exact .brk hq'
    | next => exact .next (fin _ _ hq')
    | cont => exact .cont (fin _ _ hq')
  · rintro h' tk m' news' F' N' hnw' ⟨ot₁, oo₁, kt, ko, js, rfl, hd₁, hd₂, hR₁, hR₂, hJ₁, hm'⟩
    rw [hsz] at hJ₁
    rw [en_out hm'] at F'
    exact done ot₁ oo₁ kt ko js m' h' tk hd₁ hd₂ hR₁ hR₂ hJ₁ F' N'
end
end Mine
end
section
open PySem PySem.W PyProof.Rows PySem.Calls PySem.Spec
namespace Mine
open RE LCg
section
variable {w : World} {A : Around} {E : Value → Shared → Prop} {s : Shared} {Q : Value → Shared → Prop}
theorem pow2_W {k : Nat} {t u : Tok} (hk : k < 4) (h : ∀ t' tk', Q (.int ((2 : Int) ^ k) t') { s with toks := tk' }) : wpAny (model PG w) A (binaryOp .Pow (.int 2 t) (.int (k : Int) u)) Q E s :=
  pow_int_small (by omega) (by omega) (by decide) (h _ _)
theorem pow2_ok {k : Nat} (hk : k < 4) : (2 : Int) ^ k ≠ 0 ∧ ((2 : Int) ^ k).natAbs.log2 < 9000 := by
  have : k = 0 ∨ k = 1 ∨ k = 2 ∨ k = 3 := by omega
  rcases this with rfl | rfl | rfl | rfl <;> decide +kernel
theorem div2_W {X : Int} {k : Nat} {t u : Tok} (hk : k < 4) (h : ∀ t' tk', Q (.int (X.fdiv ((2 : Int) ^ k)) t') { s with toks := tk' }) : wpAny (model PG w) A (binaryOp .FloorDiv (.int X t) (.int ((2 : Int) ^ k) u)) Q E s :=
  floordiv_int (pow2_ok hk).1 (h _ _) (Or.inl (PyProof.noPylong_of_log2 (pow2_ok hk).2))
theorem str_k {k : Nat} {t : Tok} (hk : k < 4) (h : ∀ t' tk', Q (.str (S [48 + k]) t') { s with toks := tk' }) : wpAny (model PG w) A (call (.type "str") [.int (k : Int) t]) Q E s := by
  have e : ((k : Int).natAbs.log2 < 1920) ∧ ((toString (k : Int) : String) : Str) = S [48 + k] := by
    have : k = 0 ∨ k = 1 ∨ k = 2 ∨ k = 3 := by omega
    rcases this with rfl | rfl | rfl | rfl <;> decide +kernel
  refine P.str_of_int e.1 ?_
  rw [show ((toString (k : Int) : String) : Str) = S [48 + k] from e.2]
  exact h _ _
theorem keyk_W {k : Nat} {t u : Tok} (hk : k < 4) (h : ∀ t' tk', Q (.str (S (keyN k)) t') { s with toks := tk' }) : wpAny (model PG w) A (binaryOp .Add (.str (Str.ofString "key") t) (.str (S [48 + k]) u)) Q E s :=
  cat_W (show Str.ofString "key" = S [107, 101, 121] by decide +kernel) rfl (by decide) (by simp) h
theorem fmod_two {X : Int} (h1 : ¬ X.fmod 2 = 1) (h2 : ¬ X.fmod 2 = 0) : False := by
  have := Int.fmod_eq_emod_of_nonneg X (b := 2) (by decide)
  omega
theorem fmod_both {X : Int} (h1 : X.fmod 2 = 1) (h2 : X.fmod 2 = 0) : False := by omega
end
section
variable {w : World} {A : Around} {E : Value → Shared → Prop} {s : Shared} {env : Env} {h₀ : Heap} {body : List Stmt} {m₀ : Str → Option Value} {L T O W ca D' p1 p2 p3 : Addr} {ot oo wc tup o1 o2 o3 : Obj} {nx : List (Addr × Obj)}
theorem en_loopW {Q : Flow → Shared → Prop} {ys : List Value} {ws : List (List Nat)} {pk pv pt : Pos} {x1 : Nat}
    (hh : A.handled = none) (F : Fr h₀ L s.heap m₀) (N : News h₀ L s.heap ((D', tup) :: (O, oo) :: (T, ot) :: (p1, o1) :: (p2, o2) :: (p3, o3) :: (W, lst ys) :: (ca, wc) :: nx)) (hL : env.locals = L)
    (hT : p1 < T ∧ p2 < T ∧ p3 < T ∧ W < T ∧ ca < T ∧ AllLt T nx) (hO : T < O ∧ p1 < O ∧ p2 < O ∧ p3 < O ∧ W < O ∧ ca < O ∧ AllLt O nx)
    (hS : StrsAre ys (ws.map S)) (hG : ∀ wd ∈ ws, GoodW wd) (hn : ws.length ≤ 4) (hdt : ot.IsDictOf (PySem.strKind PG w) []) (hdo : oo.IsDictOf (PySem.strKind PG w) [])
    (turn : ∀ (i : Nat) (wd : List Nat) ti u (ot oo : Obj) (kt ko : List (Str × Value)) (js : Js) h tk own, i < 4 → GoodW wd → ot.IsDictOf (PySem.strKind PG w) kt → oo.IsDictOf (PySem.strKind PG w) ko → RowsAre kt (rowsOf js) → RowsAre ko (optsOf (ssOf js)) → JsG i js → OwnOff ((O, oo) :: (ca, wc) :: own) [T] → OwnOff ((ca, wc) :: own) [O] →
      Fr h₀ L h (fun y => if y = Str.ofString "word" then some (.str (S wd) u) else if y = Str.ofString "k" then some (.int (i : Int) ti) else m₀ y) → News h₀ L h ((T, ot) :: (O, oo) :: (ca, wc) :: own) →
      wpAny (model PG w) A (execs body env) (EnEnd h₀ L T O m₀ own w i { s with heap := h, toks := tk } Q) E { s with heap := h, toks := tk })
    (done : ∀ (ot oo : Obj) (kt ko : List (Str × Value)) (js : Js) (u : Str → Option Value) h tk, ot.IsDictOf (PySem.strKind PG w) kt → oo.IsDictOf (PySem.strKind PG w) ko → RowsAre kt (rowsOf js) → RowsAre ko (optsOf (ssOf js)) → JsG ws.length js →
      Fr h₀ L h (fun y => if y = Str.ofString "word" then u y else if y = Str.ofString "k" then u y else m₀ y) → News h₀ L h ((T, ot) :: (O, oo) :: (ca, wc) :: nx) → OwnOff ((O, oo) :: (ca, wc) :: nx) [T] → OwnOff ((ca, wc) :: nx) [O] → Q .next { s with heap := h, toks := tk })
    (hxk : env.kindOf (Str.ofString "k") = some .local) (hxv : env.kindOf (Str.ofString "word") = some .local)
    (hp : (env.scope.kind == .class || (env.scope.kind == .module && env.locals != env.globals)) = false) :
    wpAny (model PG w) A (call (.type "enumerate") [.ref W]) (fun xv s₁ => wpAny (model PG w) A (pyIter xv) (fun it s₂ => TurnsAt PG w A h₀ env (.Tuple [.Name (Str.ofString "k") pk, .Name (Str.ofString "word") pv] x1 pt) body Q E it s₂) E s₁) E s := by
  obtain ⟨_, _, _, hTW, hTc, hTn⟩ := hT
  obtain ⟨hTO, _, _, _, hOW, hOc, hOn⟩ := hO
  have offT : ∀ oo, OwnOff ((O, oo) :: (W, lst ys) :: (ca, wc) :: nx) [T] := by
    intro oo p hp b hb
    rw [List.mem_singleton.mp hb]
    rcases List.mem_cons.mp hp with e | hp
    · rw [e]; exact Nat.ne_of_gt hTO
    rcases List.mem_cons.mp hp with e | hp
    · rw [e]; exact Nat.ne_of_lt hTW
    rcases List.mem_cons.mp hp with e | hp
    · rw [e]; exact Nat.ne_of_lt hTc
    · exact Nat.ne_of_lt (ktn_ltOf hTn p hp)
  have offO : OwnOff ((W, lst ys) :: (ca, wc) :: nx) [O] := by
    intro p hp b hb
    rw [List.mem_singleton.mp hb]
    rcases List.mem_cons.mp hp with e | hp
    · rw [e]; exact Nat.ne_of_lt hOW
    rcases List.mem_cons.mp hp with e | hp
    · rw [e]; exact Nat.ne_of_lt hOc
    · exact Nat.ne_of_lt (ktn_ltOf hOn p hp)
  refine en_loop (rest := (W, lst ys) :: (ca, wc) :: nx) hh F (fun p hp => N p ?_) hL (offT oo) offO (.head _) hS hG hn hdt hdo ?_ ?_ hxk hxv hp
  · simp only [List.mem_cons] at hp ⊢
    rcases hp with h | h | h | h | h <;> simp [h]
  · intro i wd ti u ot oo kt ko js h tk own hi hg hd₁ hd₂ hR₁ hR₂ hJ hoff hoffO hsub F' N'
    have hc : (ca, wc) ∈ own := hsub _ (.tail _ (.head _))
    refine turn i wd ti u ot oo kt ko js h tk own hi hg hd₁ hd₂ hR₁ hR₂ hJ (fun p hp => hoff p ?_) (fun p hp => hoffO p ?_) F' fun p hp => N' p ?_
    · rcases List.mem_cons.mp hp with e | hp
      · rw [e]; exact .head _
      rcases List.mem_cons.mp hp with e | hp
      · rw [e]; exact .tail _ hc
      · exact .tail _ hp
    · rcases List.mem_cons.mp hp with e | hp
      · rw [e]; exact hc
      · exact hp
    · simp only [List.mem_cons] at hp ⊢
      rcases hp with h | h | h | h
      · simp [h]
      · simp [h]
      · exact .inr (.inr (h ▸ hc))
      · simp [h]
  · intro ot oo kt ko js u h tk hd₁ hd₂ hR₁ hR₂ hJ F' N'
    refine done ot oo kt ko js u h tk hd₁ hd₂ hR₁ hR₂ hJ F' (fun p hp => N' p ?_) (fun p hp => offT oo p ?_) fun p hp => offO p (.tail _ hp)
    · simp only [List.mem_cons] at hp ⊢
      rcases hp with h | h | h | h <;> simp [h]
    · simp only [List.mem_cons] at hp ⊢
      rcases hp with h | h | h <;> simp [h]
theorem en_some {own : List (Addr × Obj)} {s₁ : Shared} {h' : Heap} {tk i : Nat} {m' : Str → Option Value} {kt ko : List (Str × Value)} {js : Js} {wd : List Nat}
    (F : Fr h₀ L h' m') (N : News h₀ L h' ((T, ot) :: (O, oo) :: (ca, wc) :: own)) (hd₁ : ot.IsDictOf (PySem.strKind PG w) kt) (hd₂ : oo.IsDictOf (PySem.strKind PG w) ko) (hR₁ : RowsAre kt (rowsOf (js ++ [(i, some wd)]))) (hR₂ : RowsAre ko (optsOf (ssOf (js ++ [(i, some wd)])))) (hJ : JsG i js) (hg : GoodW wd)
    (hm : ∀ z, z ≠ Str.ofString "k" → z ≠ Str.ofString "word" → m' z = m₀ z) : EnFin h₀ L T O m₀ own w i s₁ { s₁ with heap := h', toks := tk } :=
  ⟨h', tk, m', _, ot, oo, kt, ko, _, rfl, F, N, .head _, .tail _ (.head _), fun p hp => .tail _ (.tail _ (.tail _ hp)), hd₁, hd₂, hR₁, hR₂, hJ.push fun _ e => (Option.some.inj e) ▸ hg, hm⟩
theorem en_none {own : List (Addr × Obj)} {s₁ : Shared} {h' : Heap} {tk i : Nat} {m' : Str → Option Value} {kt ko : List (Str × Value)} {js : Js}
    (F : Fr h₀ L h' m') (N : News h₀ L h' ((T, ot) :: (O, oo) :: (ca, wc) :: own)) (hd₁ : ot.IsDictOf (PySem.strKind PG w) kt) (hd₂ : oo.IsDictOf (PySem.strKind PG w) ko) (hR₁ : RowsAre kt (rowsOf (js ++ [(i, none)]))) (hR₂ : RowsAre ko (optsOf (ssOf js))) (hJ : JsG i js)
    (hm : ∀ z, z ≠ Str.ofString "k" → z ≠ Str.ofString "word" → m' z = m₀ z) : EnFin h₀ L T O m₀ own w i s₁ { s₁ with heap := h', toks := tk } :=
  ⟨h', tk, m', _, ot, oo, kt, ko, _, rfl, F, N, .head _, .tail _ (.head _), fun p hp => .tail _ (.tail _ (.tail _ hp)), hd₁, hd₂, hR₁, (opt_none (i := i) (js := js)).symm ▸ hR₂, hJ.push fun _ e => (nomatch e), hm⟩
end
end Mine
end
section
open PySem PySem.W PyProof.Rows PySem.Calls PySem.Spec
namespace Mine
open RE LCg
theorem key_ok {j : Nat} (h : j < 4) : (keyN j).length ≤ 8 ∧ Txt.endswith (S (keyN j)) (Str.ofString "*") = false := by
  rcases key_cases h with rfl | rfl | rfl | rfl <;> exact ⟨by decide, by decide +kernel⟩
theorem rows_ok {i : Nat} {js : Js} (h : JsG i js) (hi : i ≤ 4) : ∀ r ∈ rowsOf js, RowOk r := fun r hr => by
  obtain ⟨x, hx, rfl⟩ := List.mem_map.mp hr
  have hk := key_ok (Nat.lt_of_lt_of_le (h.lt x hx) hi)
  exact ⟨hk.1, hk.2, fun wd e => by have := (h.2 x hx wd e).1; omega⟩
theorem segH_le {i : Nat} {js : Js} (h : JsG i js) (hi : i ≤ 4) : (joinL [44, 32] ((rowsOf js).flatMap segH)).length ≤ 260 := by
  have h1 := join_le [44, 32] 60 _ (segsH_len (rows_ok h hi))
  rw [segsH_cnt, rowsOf_len, h.len] at h1
  have : i * (60 + [44, 32].length) ≤ 4 * 62 := Nat.mul_le_mul hi (by decide)
  omega
theorem segO_le {i : Nat} {js : Js} {hs : List (List Nat)} (h : JsG i js) (hi : i ≤ 4) (hh : ∀ wd ∈ hs, wd.length ≤ 60) (hn : hs.length ≤ 1) : (joinL [59, 32] (hs ++ (rowsOf js).flatMap segO)).length ≤ 310 := by
  have h1 := join_le [59, 32] 60 _ (segsO_len (rows_ok h hi) hh)
  have h2 := segsO_cap (rows := rowsOf js) (hs := hs) (by rw [rowsOf_len, h.len]; exact hi) hn
  rw [List.length_append] at h1
  have : (hs.length + ((rowsOf js).flatMap segO).length) * (60 + [59, 32].length) ≤ 5 * 62 := Nat.mul_le_mul h2 (by decide)
  omega
theorem text_c : Str.ofString "text/x" = S valT := by decide +kernel
theorem good37 {wd : List Nat} (h : GoodW wd) : 37 ∉ wd := fun hm => by
  have := h.2 37 hm
  exact absurd this (by decide)
theorem pairs_ok {i : Nat} {js : Js} (h : JsG i js) (hi : i ≤ 4) : ∀ p ∈ (ssOf js).map (fun s => (keyN s.1, quote s.2)), PairOk p := fun p hp => by
  obtain ⟨x, hx, rfl⟩ := List.mem_map.mp hp
  have hm := ss_mem hx
  have hg := h.2 _ hm _ rfl
  refine ⟨⟨x.1, Nat.lt_of_lt_of_le (h.lt _ hm) hi, rfl⟩, ?_, quote_free (by decide) (by decide) (good37 hg)⟩
  have := quote_len x.2
  have := hg.1
  show (quote x.2).length ≤ 100
  omega
theorem pairs_cnt {i : Nat} {js : Js} (h : JsG i js) (hi : i ≤ 4) : ((ssOf js).map (fun s => (keyN s.1, quote s.2))).length ≤ 4 := by
  rw [List.length_map]
  have := ssOf_le js
  have := h.len
  omega
theorem tab_sub {h₀ h : Heap} {L : Addr} {m : Str → Option Value} {nx news : List (Addr × Obj)} (hf : FullLed h₀ nx) (F : Fr h₀ L h m) (N : News h₀ L h news) (hs : ∀ p ∈ nx, p ∈ news) : TabFull h :=
  full_tab (r := []) hf F fun p hp => N p (hs p (by simpa using hp))
section
variable {w : World} {mean : ExcName → Option Value} {mg mb : Str → Option Value} {A : Around} {dp un : Nat} {gd : Option (List Code)} {cn : Str} {cs : Scope} {a : Addr} {ccd : Value} {cl : List (Str × Addr)} {outer : List Env} {A₀ : Around} {base h₀ : Heap} {L T O : Addr} {ot oo : Obj} {kt ko : List (Str × Value)} {js : Js} {i : Nat} {m : Str → Option Value} {s : Shared} {Q E : Value → Shared → Prop} {news : List (Addr × Obj)}
theorem new_obj {D : Addr} {o : Obj} {h' : Heap} (F : Fr h₀ L s.heap m) (F' : Fr h₀ L h' m) (h1 : h'.get? D = some o) (h2 : s.heap.get? D = none) : h'.get? D = some o ∧ D ≠ L ∧ h₀.get? D = none := by
  refine ⟨h1, ?_, ?_⟩
  · rintro rfl
    obtain ⟨o', _, _, ho, _⟩ := F.ns
    rw [h2] at ho; cases ho
  · cases e : h₀.get? D with
    | none => rfl
    | some o' => have := F.keep _ _ e; rw [h2] at this; cases this
theorem lw_dumpd (hA : A = ktrTop dp un gd cn cs L a ccd cl outer) (F : Fr h₀ L s.heap m) (B : Below A₀ base outer h₀) (X : (hd.heap_39 w.params).In h₀) (Tp : Top topProg LO mean mg mb h₀) (N : News h₀ L s.heap news) (hm : (T, ot) ∈ news) (hd : ot.IsDictOf (PySem.strKind PG w) kt) (hR : RowsAre kt (rowsOf js)) (hJ : JsG i js) (hi : i ≤ 4) (hlo : (T == sysModules) = false) (hk : cs.kind = .function) (hdp : dp + 2 < recursionLimit) (hu : un + 16 < cLine)
    (ret : ∀ t h' tk', Fr h₀ L h' m → News h₀ L h' news → Q (.str (S (joinL [44, 32] ((rowsOf js).flatMap segH))) t) { s with heap := h', toks := tk' }) :
    wpAny (model PG w) A (call (.ref 61) [.ref T]) Q E s := by
  subst hA
  exact con_val (con_dumpd w mean mg mb T kt (rowsOf js) hlo hR (by rw [rowsOf_len, hJ.len]; exact hi) (rows_ok hJ hi)) B F X Tp N (kda_dict N hm hd) hk hdp (by omega) fun v' h' tk' F' N' ⟨t, e⟩ => e ▸ ret t h' tk' F' N'
theorem lw_pdict {tv : Tok} (hA : A = ktrTop dp un gd cn cs L a ccd cl outer) (F : Fr h₀ L s.heap m) (B : Below A₀ base outer h₀) (X : (hd.heap_39 w.params).In h₀) (Tp : Top topProg LO mean mg mb h₀) (N : News h₀ L s.heap news) (hJ : JsG i js) (hi : i ≤ 4) (ht : TabFull s.heap) (hk : cs.kind = .function) (hdp : dp + 4 < recursionLimit) (hu : un + 32 < cLine)
    (ret : ∀ D o kvs h' tk', Fr h₀ L h' m → News h₀ L h' ((D, o) :: news) → o.IsDictOf (PySem.strKind PG w) kvs → RowsAre kvs (rowsOf js) → (D == sysModules) = false → Q (.ref D) { s with heap := h', toks := tk' }) :
    wpAny (model PG w) A (call (.ref 73) [.str (S (joinL [44, 32] ((rowsOf js).flatMap segH))) tv]) Q E s := by
  subst hA
  refine con_val (con_pdict w mean mg mb _ tv (Nat.le_trans (segH_le hJ hi) (by decide))) B F X Tp N ht hk hdp (by omega) fun v' h' tk' F' N' ⟨D, kvs, o, e, h1, h2, h3, h4, h5⟩ => ?_
  subst e
  rw [law_table (tabRows_of (hJ.ok hi))] at h3
  exact ret D o kvs h' tk' F' (fun p hp => by
    rcases List.mem_cons.mp hp with e | hp
    · rw [e]; exact new_obj F F' h1 h4
    · exact N' p hp) h2 h3 h5
theorem lw_opts {tv : Tok} (hA : A = ktrTop dp un gd cn cs L a ccd cl outer) (F : Fr h₀ L s.heap m) (B : Below A₀ base outer h₀) (X : (hd.heap_39 w.params).In h₀) (Tp : Top topProg LO mean mg mb h₀) (N : News h₀ L s.heap news) (hm : (T, ot) ∈ news) (hd : ot.IsDictOf (PySem.strKind PG w) kt) (hR : RowsAre kt (rowsOf js)) (hJ : JsG i js) (hi : i ≤ 4) (hlo : (T == sysModules) = false) (hk : cs.kind = .function) (hdp : dp + 2 < recursionLimit) (hu : un + 16 < cLine)
    (ret : ∀ t h' tk', Fr h₀ L h' m → News h₀ L h' news → Q (.str (S (joinL [59, 32] ([valT] ++ (rowsOf js).flatMap segO))) t) { s with heap := h', toks := tk' }) :
    wpAny (model PG w) A (call (.ref 56) [.str (Str.ofString "text/x") tv, .ref T]) Q E s := by
  subst hA
  rw [text_c]
  exact con_val (con_opts w mean mg mb valT tv (by decide) T kt (rowsOf js) hlo hR (by rw [rowsOf_len, hJ.len]; exact hi) (rows_ok hJ hi)) B F X Tp N (kda_dict N hm hd) hk hdp (by omega) fun v' h' tk' F' N' ⟨t, e⟩ => e ▸ ret t h' tk' F' N'
theorem lw_optsN (hA : A = ktrTop dp un gd cn cs L a ccd cl outer) (F : Fr h₀ L s.heap m) (B : Below A₀ base outer h₀) (X : (hd.heap_39 w.params).In h₀) (Tp : Top topProg LO mean mg mb h₀) (N : News h₀ L s.heap news) (hm : (T, ot) ∈ news) (hd : ot.IsDictOf (PySem.strKind PG w) kt) (hR : RowsAre kt (rowsOf js)) (hJ : JsG i js) (hi : i ≤ 4) (hlo : (T == sysModules) = false) (hk : cs.kind = .function) (hdp : dp + 2 < recursionLimit) (hu : un + 16 < cLine)
    (ret : ∀ t h' tk', Fr h₀ L h' m → News h₀ L h' news → Q (.str (S (joinL [59, 32] (([] : List (List Nat)) ++ (rowsOf js).flatMap segO))) t) { s with heap := h', toks := tk' }) :
    wpAny (model PG w) A (call (.ref 56) [.none, .ref T]) Q E s := by
  subst hA
  exact con_val (con_optsN w mean mg mb T kt (rowsOf js) hlo hR (by rw [rowsOf_len, hJ.len]; exact hi) (rows_ok hJ hi)) B F X Tp N (kda_dict N hm hd) hk hdp (by omega) fun v' h' tk' F' N' ⟨t, e⟩ => e ▸ ret t h' tk' F' N'
theorem junk_rows {t : Tok} : RowsAre [(Str.ofString "KEY0", .str (Str.ofString "other") t), (Str.ofString "junk", .none)] [(K0T, some otherT), ([106, 117, 110, 107], none)] := by
  have e1 : Str.ofString "KEY0" = S K0T := by decide +kernel
  have e2 : Str.ofString "other" = S otherT := by decide +kernel
  have e3 : Str.ofString "junk" = S [106, 117, 110, 107] := by decide +kernel
  rw [e1, e2, e3]; exact .str (.non .nil)
theorem junk_ok : ∀ r ∈ ([(K0T, some otherT), ([106, 117, 110, 107], none)] : List RowL), RowOk r := by
  intro r hr
  rcases List.mem_cons.mp hr with rfl | hr
  · exact ⟨by decide, by decide +kernel, fun x e => by cases e; decide⟩
  · rw [List.mem_singleton.mp hr]
    exact ⟨by decide, by decide +kernel, fun x e => nomatch e⟩
theorem lw_optsJ {tv t0 : Tok} (hA : A = ktrTop dp un gd cn cs L a ccd cl outer) (F : Fr h₀ L s.heap m) (B : Below A₀ base outer h₀) (X : (hd.heap_39 w.params).In h₀) (Tp : Top topProg LO mean mg mb h₀) (N : News h₀ L s.heap ((T, ot) :: news)) (hd : ot.IsDictOf (PySem.strKind PG w) [(Str.ofString "KEY0", .str (Str.ofString "other") t0), (Str.ofString "junk", .none)]) (hlo : (T == sysModules) = false) (hk : cs.kind = .function) (hdp : dp + 2 < recursionLimit) (hu : un + 16 < cLine)
    (ret : ∀ t h' tk', Fr h₀ L h' m → News h₀ L h' news → Q (.str (S (joinL [59, 32] ([valT] ++ [looseA]))) t) { s with heap := h', toks := tk' }) :
    wpAny (model PG w) A (call (.ref 56) [.str (Str.ofString "text/x") tv, .ref T]) Q E s := by
  subst hA
  rw [text_c]
  have e : ([(K0T, some otherT), ([106, 117, 110, 107], none)] : List RowL).flatMap segO = [looseA] := by decide +kernel
  have C := con_opts w mean mg mb valT tv (by decide) T _ _ hlo (junk_rows (t := t0)) (by decide) junk_ok
  rw [e] at C
  exact con_val C B F X Tp N (kda_dict N (.head _) hd) hk hdp (by omega) fun v' h' tk' F' N' ⟨t, e⟩ => e ▸ ret t h' tk' F' fun p hp => N' p (.tail _ hp)
theorem lw_popts' {v : List Nat} {tv : Tok} {rows : List RowL} {ps : List PairL} (hv : v.length ≤ 500) (h1 : strip2 (bef 59 v) = valT) (h2 : parseO v = rows) (h3 : poRun ((strip2 (aft 59 v)).length + 1) (strip2 (aft 59 v)) 0 = ps) (hc : ps.length ≤ 500) (hok : ∀ p ∈ ps, PairOk p)
    (hA : A = ktrTop dp un gd cn cs L a ccd cl outer) (F : Fr h₀ L s.heap m) (B : Below A₀ base outer h₀) (X : (hd.heap_39 w.params).In h₀) (Tp : Top topProg LO mean mg mb h₀) (N : News h₀ L s.heap news) (ht : TabFull s.heap) (hk : cs.kind = .function) (hdp : dp + 4 < recursionLimit) (hu : un + 32 < cLine)
    (ret : ∀ P D t o kvs h' tk', Fr h₀ L h' m → News h₀ L h' ((P, { cls := .type "tuple", data := .seq [Value.str (S valT) t, .ref D].toArray }) :: (D, o) :: news) → o.IsDictOf (PySem.strKind PG w) kvs → RowsAre kvs rows → (D == sysModules) = false → Q (.ref P) { s with heap := h', toks := tk' }) :
    wpAny (model PG w) A (call (.ref 98) [.str (S v) tv]) Q E s := by
  subst hA h2 h3
  refine con_val (con_popts w mean mg mb v tv hv hc hok) B F X Tp N ht hk hdp (by omega) fun v' h' tk' F' N' ⟨P, D, t, kvs, o, e, g1, g2, g3, g4, g5, g6, g7⟩ => ?_
  subst e
  rw [h1] at g1
  exact ret P D t o kvs h' tk' F' (fun p hp => by
    rcases List.mem_cons.mp hp with e | hp
    · rw [e]; exact new_obj F F' g1 g5
    rcases List.mem_cons.mp hp with e | hp
    · rw [e]; exact new_obj F F' g2 g6
    · exact N' p hp) g3 g4 g7
theorem lw_popts {tv : Tok} (hA : A = ktrTop dp un gd cn cs L a ccd cl outer) (F : Fr h₀ L s.heap m) (B : Below A₀ base outer h₀) (X : (hd.heap_39 w.params).In h₀) (Tp : Top topProg LO mean mg mb h₀) (N : News h₀ L s.heap news) (hJ : JsG i js) (hi : i ≤ 4) (ht : TabFull s.heap) (hk : cs.kind = .function) (hdp : dp + 4 < recursionLimit) (hu : un + 32 < cLine)
    (ret : ∀ P D t o kvs h' tk', Fr h₀ L h' m → News h₀ L h' ((P, { cls := .type "tuple", data := .seq [Value.str (S valT) t, .ref D].toArray }) :: (D, o) :: news) → o.IsDictOf (PySem.strKind PG w) kvs → RowsAre kvs (optsOf (ssOf js)) → (D == sysModules) = false → Q (.ref P) { s with heap := h', toks := tk' }) :
    wpAny (model PG w) A (call (.ref 98) [.str (S (joinL [59, 32] ([valT] ++ (rowsOf js).flatMap segO))) tv]) Q E s := by
  obtain ⟨h1, h2, h3⟩ := law_opts (hJ.ok hi)
  exact lw_popts' (Nat.le_trans (segO_le hJ hi (one_len (by decide)) (Nat.le_refl _)) (by decide)) h1 h2 h3 (Nat.le_trans (pairs_cnt hJ hi) (by decide)) (pairs_ok hJ hi) hA F B X Tp N ht hk hdp hu ret
theorem lw_popts2 {tv : Tok} (hA : A = ktrTop dp un gd cn cs L a ccd cl outer) (F : Fr h₀ L s.heap m) (B : Below A₀ base outer h₀) (X : (hd.heap_39 w.params).In h₀) (Tp : Top topProg LO mean mg mb h₀) (N : News h₀ L s.heap news) (hJ : JsG i js) (hi : i ≤ 4) (ht : TabFull s.heap) (hk : cs.kind = .function) (hdp : dp + 4 < recursionLimit) (hu : un + 32 < cLine)
    (ret : ∀ P D t o kvs h' tk', Fr h₀ L h' m → News h₀ L h' ((P, { cls := .type "tuple", data := .seq [Value.str (S valT) t, .ref D].toArray }) :: (D, o) :: news) → o.IsDictOf (PySem.strKind PG w) kvs → RowsAre kvs (optsOf (ssOf js)) → (D == sysModules) = false → Q (.ref P) { s with heap := h', toks := tk' }) :
    wpAny (model PG w) A (call (.ref 98) [.str (S (joinL [59, 32] (valT :: (rowsOf js).flatMap segO))) tv]) Q E s :=
  lw_popts hA F B X Tp N hJ hi ht hk hdp hu ret
/-- what the loose text is read as -/
def looseRows : Js → List RowL
  | (0, none) :: r => (keyN 0, some otherT) :: optsOf (ssOf r)
  | js => optsOf (ssOf js)
theorem other_ok : PairOk (keyN 0, otherT) := ⟨⟨0, by decide, rfl⟩, by decide, by decide⟩
theorem looseA_len : ∀ wd ∈ [valT] ++ [looseA], wd.length ≤ 60 := by decide
theorem JsG.head {n : Nat} {js : Js} (h : JsG n js) (hn : 1 ≤ n) : ∃ o r, js = (0, o) :: r := by
  cases js with
  | nil => have := h.len; simp at this; omega
  | cons x r =>
    obtain ⟨j, o⟩ := x
    obtain ⟨k, rfl⟩ : ∃ k, n = k + 1 := ⟨n - 1, by omega⟩
    have := h.1
    rw [List.range_succ_eq_map] at this
    have e : j = 0 := (List.cons.inj this).1
    exact ⟨o, r, by rw [e]⟩
theorem lw_loose {tv : Tok} (hA : A = ktrTop dp un gd cn cs L a ccd cl outer) (F : Fr h₀ L s.heap m) (B : Below A₀ base outer h₀) (X : (hd.heap_39 w.params).In h₀) (Tp : Top topProg LO mean mg mb h₀) (N : News h₀ L s.heap news) (hJ : JsG i js) (hi : i ≤ 4) (hi1 : 1 ≤ i) (ht : TabFull s.heap) (hk : cs.kind = .function) (hdp : dp + 4 < recursionLimit) (hu : un + 32 < cLine)
    (ret : ∀ P D t o kvs h' tk', Fr h₀ L h' m → News h₀ L h' ((P, { cls := .type "tuple", data := .seq [Value.str (S valT) t, .ref D].toArray }) :: (D, o) :: news) → o.IsDictOf (PySem.strKind PG w) kvs → RowsAre kvs (looseRows js) → (D == sysModules) = false → Q (.ref P) { s with heap := h', toks := tk' }) :
    wpAny (model PG w) A (call (.ref 98) [.str (S ((joinL [59, 32] ([valT] ++ [looseA]) ++ [32, 59, 59, 32, 9, 106, 117, 110, 107, 59, 32]) ++ joinL [59, 32] (([] : List (List Nat)) ++ (rowsOf js).flatMap segO))) tv]) Q E s := by
  obtain ⟨o0, r, rfl⟩ := hJ.head hi1
  obtain ⟨h1, h3, h2⟩ := law_loose (hJ.ok hi)
  have e : (joinL [59, 32] ([valT] ++ [looseA]) ++ [32, 59, 59, 32, 9, 106, 117, 110, 107, 59, 32]) ++ joinL [59, 32] (([] : List (List Nat)) ++ (rowsOf ((0, o0) :: r)).flatMap segO) = looseText ((0, o0) :: r) := by
    unfold looseText; rw [List.append_assoc]
  have hlen : (looseText ((0, o0) :: r)).length ≤ 500 := by
    rw [← e, List.length_append]
    have := segO_le (hs := []) hJ hi (fun _ h => nomatch h) (by decide)
    have e2 : (joinL [59, 32] ([valT] ++ [looseA]) ++ [32, 59, 59, 32, 9, 106, 117, 110, 107, 59, 32]).length ≤ 100 := by decide
    omega
  rw [e]
  refine lw_popts' (rows := looseRows ((0, o0) :: r)) hlen h1 (by rw [h2]; cases o0 <;> rfl) h3 ?_ ?_ hA F B X Tp N ht hk hdp hu ret
  · have := pairs_cnt hJ hi
    rw [List.length_cons]; omega
  · intro p hp
    rcases List.mem_cons.mp hp with rfl | hp
    · exact other_ok
    · exact pairs_ok hJ hi p hp
theorem lw_loose2 {tv : Tok} (hA : A = ktrTop dp un gd cn cs L a ccd cl outer) (F : Fr h₀ L s.heap m) (B : Below A₀ base outer h₀) (X : (hd.heap_39 w.params).In h₀) (Tp : Top topProg LO mean mg mb h₀) (N : News h₀ L s.heap news) (hJ : JsG i js) (hi : i ≤ 4) (hi1 : 1 ≤ i) (ht : TabFull s.heap) (hk : cs.kind = .function) (hdp : dp + 4 < recursionLimit) (hu : un + 32 < cLine)
    (ret : ∀ P D t o kvs h' tk', Fr h₀ L h' m → News h₀ L h' ((P, { cls := .type "tuple", data := .seq [Value.str (S valT) t, .ref D].toArray }) :: (D, o) :: news) → o.IsDictOf (PySem.strKind PG w) kvs → RowsAre kvs (looseRows js) → (D == sysModules) = false → Q (.ref P) { s with heap := h', toks := tk' }) :
    wpAny (model PG w) A (call (.ref 98) [.str (S ((joinL [59, 32] [valT, looseA] ++ [32, 59, 59, 32, 9, 106, 117, 110, 107, 59, 32]) ++ joinL [59, 32] ((rowsOf js).flatMap segO))) tv]) Q E s :=
  lw_loose hA F B X Tp N hJ hi hi1 ht hk hdp hu ret
end
theorem rows_nodup {i : Nat} {js : Js} (h : JsG i js) (hi : i ≤ 4) : ((rowsOf js).map (·.1)).Nodup := (tabRows_of (h.ok hi)).2
theorem opts_nodup {i : Nat} {js : Js} (h : JsG i js) (hi : i ≤ 4) : ((optsOf (ssOf js)).map (·.1)).Nodup := by
  rw [opts_keys]; exact nodup_key (ss_nodup (h.ok hi))
/-- the options' rows at the law's end -/
def endRows : Js → List RowL
  | (0, none) :: r => optsOf (ssOf r) ++ [(keyN 0, some otherT)]
  | js => optsOf (ssOf js)
theorem loose_same {i : Nat} {js : Js} (h : JsG i js) (hi : i ≤ 4) (hi1 : 1 ≤ i) : SameR (looseRows js) (endRows js) := by
  obtain ⟨o0, r, rfl⟩ := h.head hi1
  have hn := opts_nodup h hi
  cases o0 with
  | some x => exact SameR.refl hn
  | none =>
    have h0 : keyN 0 ∉ (optsOf (ssOf r)).map (·.1) := by
      rw [opts_keys]
      intro hm
      obtain ⟨j, hj, e⟩ := List.mem_map.mp hm
      rw [keyN_inj e] at hj
      exact (List.nodup_cons.mp (h.ok hi).2).1 ((ss_sub r).subset hj)
    refine ⟨by simp [looseRows, endRows], ?_, fun x hx => ?_⟩
    · show ((optsOf (ssOf r) ++ [(keyN 0, some otherT)]).map (·.1)).Nodup
      rw [List.map_append, List.nodup_append]
      refine ⟨hn, by simp, fun a ha b hb => ?_⟩
      rw [List.mem_singleton.mp hb]
      rintro rfl
      exact h0 ha
    · rcases List.mem_cons.mp hx with rfl | hx
      · exact List.mem_append_right _ (.head _)
      · exact List.mem_append_left _ hx
theorem rows_no {k : List Nat} : ∀ {kb : List (Str × Value)} {rb : List RowL}, RowsAre kb rb → k ∉ rb.map (·.1) → valueAt kb (S k) = none
  | [], _, h, _ => by cases h; rfl
  | p :: kb, _, h, hk => by
    obtain ⟨k', o', r', rfl, e, hv, h'⟩ := h.inv
    obtain ⟨p1, p2⟩ := p
    simp only at e hv
    subst e
    rw [List.map_cons, List.mem_cons, not_or] at hk
    have ih := rows_no h' hk.2
    unfold valueAt at ih ⊢
    rw [List.find?_cons_of_neg (by simpa using fun e => hk.1 (S_inj e).symm)]; exact ih
theorem key0_c : Str.ofString "key0" = S (keyN 0) := by decide +kernel
theorem other_c : Str.ofString "other" = S otherT := by decide +kernel
section
variable {w : World} {A : Around} {E : Value → Shared → Prop} {s : Shared} {h₀ : Heap} {L T O P D R : Addr} {ot oo o : Obj} {kt ko kvs : List (Str × Value)} {js : Js} {i : Nat} {news r : List (Addr × Obj)} {t u : Tok} {m : Str → Option Value}
theorem dict_neN {Q : Value → Shared → Prop} (N : News h₀ L s.heap ((D, o) :: (T, ot) :: r)) (hd : o.IsDictOf (PySem.strKind PG w) kvs) (hd2 : ot.IsDictOf (PySem.strKind PG w) kt) (hR : RowsAre kvs (rowsOf js)) (hR2 : RowsAre kt (rowsOf js)) (hJ : JsG i js) (hi : i ≤ 4) (lo1 : (D == sysModules) = false) (lo2 : (T == sysModules) = false) (hu : A.units < cLine) (h : Q (.bool false) s) :
    wpAny (model PG w) A (compareOp .NotEq (.ref D) (.ref T)) Q E s :=
  dict_ne lo1 lo2 (kda_dict N (.head _) hd) (kda_dict N (.tail _ (.head _)) hd2) hu hR hR2 (SameR.refl (rows_nodup hJ hi)) h
theorem tup_neN {Q : Value → Shared → Prop} (N : News h₀ L s.heap ((R, { cls := .type "tuple", data := .seq #[Value.str (Str.ofString "text/x") u, .ref O] }) :: (P, { cls := .type "tuple", data := .seq [Value.str (S valT) t, .ref D].toArray }) :: (D, o) :: r)) (hm : (O, oo) ∈ r) (hd : o.IsDictOf (PySem.strKind PG w) kvs) (hd2 : oo.IsDictOf (PySem.strKind PG w) ko) (hR : RowsAre kvs (optsOf (ssOf js))) (hR2 : RowsAre ko (optsOf (ssOf js))) (hJ : JsG i js) (hi : i ≤ 4) (lo1 : (D == sysModules) = false) (lo2 : (O == sysModules) = false) (hu : A.units < cLine) (hu1 : A.in1.units < cLine) (h : News h₀ L s.heap r → Q (.bool false) s) :
    wpAny (model PG w) A (compareOp .NotEq (.ref P) (.ref R)) Q E s :=
  tup_ne ⟨_, (N _ (.tail _ (.head _))).1, rfl, _, rfl⟩ ⟨_, (N _ (.head _)).1, rfl, _, rfl⟩ hu (text_c ▸ str_eqW _ _ _) (dict_eqW lo1 lo2 (kda_dict N (.tail _ (.tail _ (.head _))) hd) (kda_dict N (.tail _ (.tail _ (.tail _ hm))) hd2) hu1 hR hR2 (SameR.refl (opts_nodup hJ hi))) (h fun p hp => N p (.tail _ (.tail _ (.tail _ hp))))
theorem tup_eqN {Q : Value → Shared → Prop} (N : News h₀ L s.heap ((R, { cls := .type "tuple", data := .seq #[Value.str (Str.ofString "text/x") u, .ref O] }) :: (P, { cls := .type "tuple", data := .seq [Value.str (S valT) t, .ref D].toArray }) :: (D, o) :: r)) (hm : (O, oo) ∈ r) (hd : o.IsDictOf (PySem.strKind PG w) kvs) (hd2 : oo.IsDictOf (PySem.strKind PG w) ko) (hR : RowsAre kvs (looseRows js)) (hR2 : RowsAre ko (endRows js)) (hJ : JsG i js) (hi : i ≤ 4) (hi1 : 1 ≤ i) (lo1 : (D == sysModules) = false) (lo2 : (O == sysModules) = false) (hu : A.units < cLine) (hu1 : A.in1.units < cLine) (h : Q (.bool true) s) :
    wpAny (model PG w) A (compareOp .Eq (.ref P) (.ref R)) Q E s :=
  tup_eq ⟨_, (N _ (.tail _ (.head _))).1, rfl, _, rfl⟩ ⟨_, (N _ (.head _)).1, rfl, _, rfl⟩ hu (text_c ▸ str_eqW _ _ _) (dict_eqW lo1 lo2 (kda_dict N (.tail _ (.tail _ (.head _))) hd) (kda_dict N (.tail _ (.tail _ (.tail _ hm))) hd2) hu1 hR hR2 (loose_same hJ hi hi1)) h
theorem notin_W {Q : Value → Shared → Prop} (N : News h₀ L s.heap news) (hm : (O, oo) ∈ news) (hd : oo.IsDictOf (PySem.strKind PG w) ko) (hR : RowsAre ko (optsOf (ssOf js))) (hJ : JsG i js) (hi : i ≤ 4) (hi1 : 1 ≤ i) (lo : (O == sysModules) = false)
    (h1 : ∀ r tk, js = (0, none) :: r → Q (.bool true) { s with toks := tk }) (h2 : ∀ tk, RowsAre ko (endRows js) → Q (.bool false) { s with toks := tk }) :
    wpAny (model PG w) A (compareOp .NotIn (.str (Str.ofString "key0") t) (.ref O)) Q E s := by
  rw [key0_c]
  refine wpAny_notIn_of (knd := PySem.strKind PG w) (k := S (keyN 0)) (strKind_is _ _ _ _) lo (kda_dict N hm hd).mapOf ?_
  obtain ⟨o0, q, rfl⟩ := hJ.head hi1
  cases o0 with
  | none =>
    rw [rows_no hR]
    · exact h1 q _ rfl
    · rw [opts_keys]
      intro hm
      obtain ⟨j, hj, e⟩ := List.mem_map.mp hm
      rw [keyN_inj e] at hj
      exact (List.nodup_cons.mp (hJ.ok hi).2).1 ((ss_sub q).subset hj)
  | some x =>
    obtain ⟨y, hy, _⟩ := rows_val hR (opts_nodup hJ hi) (k := keyN 0) (o := some x) (.head _)
    rw [hy]; exact h2 _ hR
theorem set_key0 {Q : Unit → Shared → Prop} {q : Js} {pre : List (Addr × Obj)} (F : Fr h₀ L s.heap m) (N : News h₀ L s.heap ((T, ot) :: (O, oo) :: r)) (off : OwnOff ((O, oo) :: r) [T]) (offO : OwnOff r [O]) (hd : oo.IsDictOf (PySem.strKind PG w) ko) (hR : RowsAre ko (optsOf (ssOf js))) (hJ : JsG i js) (hi : i ≤ 4) (he : js = (0, none) :: q)
    (h : ∀ h' oo' ko' tk', Fr h₀ L h' m → News h₀ L h' ((T, ot) :: (O, oo') :: r) → oo'.IsDictOf (PySem.strKind PG w) ko' → RowsAre ko' (endRows js) → Q () { s with heap := h', toks := tk' }) :
    wpAny (model PG w) A (setItem (.ref O) (.str (Str.ofString "key0") t) (.str (Str.ofString "other") u)) Q E s := by
  rw [key0_c, other_c]
  subst he
  have hput : putR (optsOf (ssOf ((0, none) :: q))) (keyN 0) (some otherT) = endRows ((0, none) :: q) := by
    rw [put_new]
    · rfl
    · rw [opts_keys]
      intro hm
      obtain ⟨j, hj, e⟩ := List.mem_map.mp hm
      rw [keyN_inj e] at hj
      exact (List.nodup_cons.mp (hJ.ok hi).2).1 ((ss_sub q).subset hj)
  refine set_row (own := (T, ot) :: r) F (fun p hp => N p ?_) ?_ hd hR ?_ (ov := some otherT) ⟨_, rfl⟩ fun h' o' kvs' tk' F' N' hd' hR' => h h' o' kvs' tk' F' (fun p hp => N' p ?_) hd' (hput ▸ hR')
  · simp only [List.mem_append, List.mem_cons, List.not_mem_nil, or_false] at hp ⊢
    rcases hp with h | h | h <;> simp [h]
  · intro p hp b hb
    rw [List.mem_singleton.mp hb]
    rcases List.mem_cons.mp hp with e | hp
    · rw [e]; exact fun e => off (O, oo) (.head _) T (.head _) e.symm
    · exact offO p hp O (.head _)
  · have := ssOf_le ((0, none) :: q)
    have := hJ.len
    simp only [optsOf, List.length_map]; omega
  · simp only [List.mem_append, List.mem_cons, List.not_mem_nil, or_false] at hp ⊢
    rcases hp with h | h | h <;> simp [h]
end
end Mine
end
section
open PySem PySem.W PyProof.Rows PySem.Calls PySem.Spec
namespace Mine
open LCg LCt RE
section
variable {w : World} {mean : ExcName → Option Value} {mg mb : Str → Option Value} {A : Around} {dp un : Nat} {gd : Option (List Code)} {cn : Str} {cs : Scope} {a : Addr} {ccd : Value} {cl : List (Str × Addr)} {outer : List Env} {A₀ : Around} {base h₀ : Heap} {L : Addr} {m : Str → Option Value} {s : Shared} {Q E : Value → Shared → Prop} {news : List (Addr × Obj)}
theorem lw_at {sc : Addr} {vs : List Value} {ns : List Int} {k : Nat} {o : Int} {tk to : Tok}
    (hA : A = ktrTop dp un gd cn cs L a ccd cl outer) (F : Fr h₀ L s.heap m) (B : Below A₀ base outer h₀) (X : (hd.heap_39 w.params).In h₀) (T : Top topProg LO mean mg mb h₀) (N : News h₀ L s.heap news) (hl : h₀.IsList sc vs.toArray) (hI : IntsAre vs ns) (hn : ¬ (63 : Int) < ns.length) (hkk : k < 8) (hk : cs.kind = .function) (hd : dp + 1 < recursionLimit) (hu : un + 8 < cLine)
    (ret : ∀ t h' tk', Fr h₀ L h' m → News h₀ L h' news → Q (.int (atL ns k o) t) { s with heap := h', toks := tk' }) :
    wpAny (model PG w) A (call (.ref 105) [.ref sc, .int (k : Int) tk, .int o to]) Q E s := by
  subst hA
  exact con_val (con_lat w mean mg mb sc vs ns hI (by omega) k hkk o tk to) B F X T N (isList_stays F.keep hl) hk hd (by omega) fun v' h' tk' F' N' ⟨t, e⟩ => e ▸ ret t h' tk' F' N'
theorem lw_word {n : Int} {tn : Tok}
    (hA : A = ktrTop dp un gd cn cs L a ccd cl outer) (F : Fr h₀ L s.heap m) (B : Below A₀ base outer h₀) (X : (hd.heap_39 w.params).In h₀) (T : Top topProg LO mean mg mb h₀) (N : News h₀ L s.heap news) (hk : cs.kind = .function) (hd : dp + 1 < recursionLimit) (hu : un + 8 < cLine)
    (ret : ∀ wd t h' tk', GoodW wd → Fr h₀ L h' m → News h₀ L h' news → Q (.str (S wd) t) { s with heap := h', toks := tk' }) :
    wpAny (model PG w) A (call (.ref 110) [.int n tn]) Q E s := by
  subst hA
  exact con_val (con_lword w mean mg mb n tn) B F X T N trivial hk hd (by omega) fun v' h' tk' F' N' ⟨wd, t, e, hg⟩ => e ▸ ret wd t h' tk' hg F' N'
end
section
variable {w : World} {mean : ExcName → Option Value} {mg mb : Str → Option Value} {A : Around} {dp un : Nat} {gd : Option (List Code)} {cn : Str} {cs : Scope} {a : Addr} {ccd : Value} {cl : List (Str × Addr)} {outer : List Env} {A₀ : Around} {base h₀ : Heap} {L : Addr} {m : Str → Option Value} {s : Shared} {Q E : Value → Shared → Prop} {news : List (Addr × Obj)}
theorem good20 {ws : List (List Nat)} (h : ∀ wd ∈ ws, GoodW wd) : ∀ wd ∈ ws, wd.length ≤ 20 := fun wd hw => by have := (h wd hw).1; omega
theorem lw_dump {D : Addr} {ys : List Value} {ws : List (List Nat)}
    (hA : A = ktrTop dp un gd cn cs L a ccd cl outer) (F : Fr h₀ L s.heap m) (B : Below A₀ base outer h₀) (X : (hd.heap_39 w.params).In h₀) (T : Top topProg LO mean mg mb h₀) (N : News h₀ L s.heap news) (hm : (D, lst ys) ∈ news) (hS : StrsAre ys (ws.map S)) (hg : ∀ wd ∈ ws, GoodW wd) (hn : ws.length ≤ 4) (hk : cs.kind = .function) (hd : dp + 2 < recursionLimit) (hu : un + 16 < cLine)
    (ret : ∀ t h' tk', Fr h₀ L h' m → News h₀ L h' news → (joinL [44, 32] (ws.map quote)).length ≤ 200 → Q (.str (S (joinL [44, 32] (ws.map quote))) t) { s with heap := h', toks := tk' }) :
    wpAny (model PG w) A (call (.ref 61) [.ref D]) Q E s := by
  subst hA
  have hlen : (joinL [44, 32] (ws.map quote)).length ≤ 200 := by
    have h1 := join_le [44, 32] 12 (ws.map quote) (fun q hq => by
      obtain ⟨x, hx, rfl⟩ := List.mem_map.mp hq
      have := quote_len x; have := (hg x hx).1; omega)
    rw [List.length_map] at h1
    have : ws.length * (12 + [44, 32].length) ≤ 4 * 14 := Nat.mul_le_mul hn (by decide)
    omega
  exact con_val (con_dump w mean mg mb D ys.toArray ws (by simpa using hS) hn (good20 hg)) B F X T N ⟨_, (N _ hm).1, rfl, _, rfl⟩ hk hd (by omega) fun v' h' tk' F' N' ⟨t, e⟩ => e ▸ ret t h' tk' F' N' hlen
/-- a contract's use where the code table stands filled in the ledger -/
theorem lw_plist {v : List Nat} {ws : List (List Nat)} {tv : Tok} (hr : parseL v = ws) (hl : v.length ≤ 500)
    (hA : A = ktrTop dp un gd cn cs L a ccd cl outer) (F : Fr h₀ L s.heap m) (B : Below A₀ base outer h₀) (X : (hd.heap_39 w.params).In h₀) (T : Top topProg LO mean mg mb h₀) (N : News h₀ L s.heap news) (ht : TabFull s.heap) (hk : cs.kind = .function) (hd : dp + 3 < recursionLimit) (hu : un + 24 < cLine)
    (ret : ∀ l ys h' tk', Fr h₀ L h' m → News h₀ L h' ((l, lst ys) :: news) → StrsAre ys (ws.map S) → Q (.ref l) { s with heap := h', toks := tk' }) :
    wpAny (model PG w) A (call (.ref 66) [.str (S v) tv]) Q E s := by
  subst hA hr
  refine con_val (con_plist w mean mg mb v tv hl) B F X T N ht hk hd (by omega) fun v' h' tk' F' N' ⟨l, ys, e, h1, h2, h3⟩ => ?_
  subst e
  refine ret l ys h' tk' F' (fun p hp => ?_) h3
  rcases List.mem_cons.mp hp with e | hp
  · rw [e]
    refine ⟨h1, ?_, ?_⟩
    · rintro rfl
      obtain ⟨o, _, _, ho, _⟩ := F.ns
      rw [h2] at ho; cases ho
    · cases e : h₀.get? l with
      | none => rfl
      | some o => have := F.keep _ _ e; rw [h2] at this; cases this
  · exact N' p hp
end
/-- a word of the law -/
def WdEl (news : List (Addr × Obj)) (y : Value) (news' : List (Addr × Obj)) : Prop := (∃ wd t, y = .str (S wd) t ∧ GoodW wd) ∧ news' = news
section
variable {prog : Program} {w : World} {A : Around} {h₀ : Heap} {L : Addr} {m : Str → Option Value} {env : Env} {elt : PySem.Expr} {x : Str} {scope : Scope} {cl : List (Str × Addr)} {s : Shared} {Fin : List Value → List (Addr × Obj) → Prop} {news : List (Addr × Obj)}
theorem rest_wd {n : Nat}
    (turn : ∀ (k : Nat) u I oI C oC D m₂ ys h tk (E' : Value → Shared → Prop), k < 4 → NsObj oC m₂ → m₂ x = some (.int (k : Int) u) → Fr h₀ L h m → News h₀ L h ((I, oI) :: (C, oC) :: (D, lst ys) :: news) → Off3 I C D news → ((@Ne Nat I C) ∧ (@Ne Nat I D) ∧ (@Ne Nat C D)) →
      wpAny (model prog w) A (eval elt (compEnvC scope cl C env)) (CompEnd h₀ L m { s with heap := h, toks := tk } I oI C oC D (lst ys) (fun _ => True) (fun y news' => WdEl news y news')) E' { s with heap := h, toks := tk })
    (hn5 : n ≤ 4) (fin : ∀ (ys : List Value) (ws : List (List Nat)), StrsAre ys (ws.map S) → ws.length = n → (∀ wd ∈ ws, GoodW wd) → Fin ys news) :
    CompRest prog w A h₀ L m env elt x scope cl s (fun _ => True) (fun i v => ∃ t, v = .int (0 + (i : Int)) t) Fin n 0 [] news := by
  have key : ∀ (j i : Nat) (ys : List Value) (ws : List (List Nat)), i + j = n → ws.length = i → StrsAre ys (ws.map S) → (∀ wd ∈ ws, GoodW wd) → CompRest prog w A h₀ L m env elt x scope cl s (fun _ => True) (fun i v => ∃ t, v = .int (0 + (i : Int)) t) Fin j i ys news := by
    intro j
    induction j with
    | zero =>
      intro i ys ws hi hc hy hm
      exact CompRest.zero (fin ys ws hy (by omega) hm)
    | succ j ih =>
      intro i ys ws hi hc hy hm
      refine CompRest.succ ?_
      intro v I oI C oC D m₂ h tk E' hv hC hx F N off ne
      obtain ⟨u, rfl⟩ := hv
      rw [Int.zero_add] at hx
      refine wpAny_mono (turn i u I oI C oC D m₂ ys h tk E' (by omega) hC hx F N off ne) (fun y s₃ hr => ?_) fun _ _ e => e
      obtain ⟨h', tk', nw, e, F', N', off', hS', ⟨wd, t, rfl, hcm⟩, hn⟩ := hr
      rw [hn] at N' off'
      refine ⟨h', tk', news, e, F', N', off', trivial, ih (i + 1) _ (ws ++ [wd]) (by omega) (by simp [hc]) ?_ ?_⟩
      · rw [List.map_append]; exact hy.append' (.cons _ t .nil)
      · intro d hd
        rcases List.mem_append.mp hd with hd | hd
        · exact hm d hd
        · rw [List.mem_singleton.mp hd]; exact hcm
  exact key n 0 [] [] (by omega) rfl .nil (by simp)
end
theorem range4 (X : Int) : Builtin.Range.small 0 (1 + X.fmod 4) 1 = true ∧ Builtin.Range.rangeSize 0 (1 + X.fmod 4) 1 = (((1 + X.fmod 4).toNat : Nat) : Int) ∧ (1 + X.fmod 4).toNat ≤ 4 ∧ 1 ≤ (1 + X.fmod 4).toNat := by
  have h1 : X.fmod 4 = X % 4 := Int.fmod_eq_emod_of_nonneg X (by decide)
  obtain ⟨k, hk, hk1, e⟩ : ∃ k : Nat, k ≤ 4 ∧ 1 ≤ k ∧ 1 + X.fmod 4 = (k : Int) := ⟨(1 + X % 4).toNat, by omega, by omega, by rw [h1]; omega⟩
  rw [e]
  refine ⟨?_, ?_, by omega, by omega⟩
  · have : k = 1 ∨ k = 2 ∨ k = 3 ∨ k = 4 := by omega
    rcases this with rfl | rfl | rfl | rfl <;> decide +kernel
  · have : k = 1 ∨ k = 2 ∨ k = 3 ∨ k = 4 := by omega
    rcases this with rfl | rfl | rfl | rfl <;> decide +kernel
theorem pick4 {prog : Program} {w : World} {A : Around} {E : Value → Shared → Prop} {s : Shared} {value slice : PySem.Expr} {Sg : Addr} {n k : Nat} {u : Tok} {i0 i1 i2 i3 : Int} {t0 t1 t2 t3 : Tok} {Q : Value → Shared → Prop} (hl : s.heap.get? Sg = some (listOf #[.int i0 t0, .int i1 t1, .int i2 t2, .int i3 t3] n)) (hk : k < 4)
    (h : ∀ o t, Q (.int o t) s)
    (hs : subscripted slice false (.ref Sg) (.int (k : Int) u) = operate [.ref Sg, .int (k : Int) u] (getItem (.ref Sg) (.int (k : Int) u)) := by with_unfolding_all rfl) (hg : ∀ r, letTemporaryGo value (.ref Sg) r = pure () := by intro _; with_unfolding_all rfl) :
    wpAny (model prog w) A (subscriptTail value slice (.ref Sg) (.int (k : Int) u)) Q E s := by
  have hits : ∃ c t, (#[Value.int i0 t0, .int i1 t1, .int i2 t2, .int i3 t3] : Array Value)[k]? = some (.int c t) := by
    have : k = 0 ∨ k = 1 ∨ k = 2 ∨ k = 3 := by omega
    rcases this with rfl | rfl | rfl | rfl <;> exact ⟨_, _, rfl⟩
  obtain ⟨c, t, hc⟩ := hits
  exact item_list ⟨_, hl, rfl, _, rfl⟩ (by omega) (by omega) (by simpa using hc) (h c t) hs hg
section
local macro_rules | `(tactic| walk_at "my enterP") => `(tactic| k_dflt (refine' enter_plain ?k1 ?k2 ?k3 ?k5 ?kA ?kF ?kK ?k6 ?k7 ?k8 ?k9 ?kB ?kL ?_ ?c2 ?c3 ?c4 ?c5; (case kA => exact rfl); (case kF => exact rfl); (case kK => assumption); (case k1 => k_asm); (case k2 => k_asm); (case k3 => k_asm); (case k5 => k_asm); (case k6 => k_is); (case k7 => k_is); (case k8 => ktr_room); (case k9 => exact BindsTo.of_eq rfl); (case c5 => decide); (case kB => exact locs rfl); (case kL => exact ⟨_, _, rfl⟩); (case c2 => exact rfl); (case c3 => exact rfl); (case c4 => exact rfl); k_whole; intro g' L' h' tk' htk' hst' FG' F' N' B' X' T'; (try dsimp only); (try k_lift B'); (try k_fold)))
local macro_rules | `(tactic| walk_at "execs cons") => `(tactic| (k_here; (with_reducible refine execs_cons_tk (by first | assumption | (dsimp only; omega)) ?_); try dsimp only))
local macro_rules | `(tactic| walk_at "execs nil") => `(tactic| (k_here; (with_reducible refine wpAny_execs_nil ?_); try dsimp only))
local macro_rules | `(tactic| walk_at "my steps") => `(tactic| repeat' (first | (k_unfold; (try dsimp only)) | walk1 | (dsimp only; walk1) | (leave1; (try dsimp only)) | fail "no step"))
local macro_rules | `(tactic| walk_at "LeaveK") => `(tactic| (k_here; k_dflt (refine' leaveK_ ?k1 ?k2 ?_; (case k1 => k_asm); (case k2 => k_asm)); intro kF kN; (try dsimp only)))

local macro_rules | `(tactic| walk_at "exec Assign cons ListComp") => `(tactic| (k_here; k_dflt ((with_reducible refine' LCt.Assign_ListComp_T ?kF ?k0 ?k1 ?k2 ?k3 ?k4 ?k5 ?k6 ?k7 ?k8 ?_ ?ks); (case kF => k_asm); (case k0 => rfl); (case k1 => with_unfolding_all rfl); (case k2 => with_unfolding_all rfl); (case k3 => decide); (case k4 => rfl); (case k5 => decide); (case k6 => rfl); (case k7 => rfl); (case k8 => rfl); (case ks => intro _; rfl))))
local macro_rules | `(tactic| walk_at "exec Assign cons ListComp") => `(tactic| (k_here; k_dflt ((with_reducible refine' LCg.Assign_ListComp_U ?kF ?k0 ?k1 ?k2 ?k3 ?k4 ?k5 ?k6 ?k7 ?k8 ?_ ?ks); (case kF => k_asm); (case k0 => rfl); (case k1 => with_unfolding_all rfl); (case k2 => with_unfolding_all rfl); (case k3 => decide); (case k4 => rfl); (case k5 => decide); (case k6 => rfl); (case k7 => rfl); (case k8 => rfl); (case ks => intro _; rfl))))
local macro_rules | `(tactic| walk_at "eval ListComp") => `(tactic| (k_here; k_dflt ((with_reducible refine' LCg.ListComp_U ?kF ?k1 ?k2 ?k3 ?k4 ?k5 ?_ ?ks); (case kF => k_asm); (case k1 => with_unfolding_all rfl); (case k2 => decide); (case k3 => rfl); (case k4 => decide); (case k5 => rfl); (case ks => intro _; rfl))))
local macro_rules | `(tactic| walk_at "CompEnd") => `(tactic| (k_here; k_dflt (refine' CompEnd.intro ?kF ?kN _ (fun p hp => hp) ?kO trivial ?_; (case kF => k_asm); (case kN => k_asm); (case kO => first | assumption | (simp only [LCg.Off3, and_true]; assumption) | trivial))))
theorem news_tl {h₀ h : Heap} {L : Addr} {a : Addr × Obj} {r : List (Addr × Obj)} (N : News h₀ L h (a :: r)) : News h₀ L h r := fun p hp => N p (.tail _ hp)
local macro_rules | `(tactic| walk_at "CompEnd") => `(tactic| (k_here; k_dflt (refine' CompEnd.intro ?kF ?kN _ (fun p hp => hp) ?kO trivial ?_; (case kF => k_asm); (case kN => exact news_tl (by assumption)); (case kO => first | assumption | (simp only [LCg.Off3, and_true]; assumption) | trivial))))
local macro_rules | `(tactic| walk_at "WdEl") => `(tactic| exact ⟨⟨_, _, rfl, by assumption⟩, rfl⟩)
local macro_rules | `(tactic| walk_at "CompSrc") => `(tactic| (k_here; k_dflt (refine' CompSrc.range (by rfl) (by k_asm) (by k_asm) (by assumption) (range4 _).1 (range4 _).2.1 (Nat.le_trans (range4 _).2.2.1 (by decide)) ?_; intro g'; refine' rest_wd (fun k9' u9' I' oI' C' oC' D' m' ys' h' tk' E' hk9' hC' hx' F' N' off' ne' => ?_) (range4 _).2.2.1 ?fin; (case' fin => (intro ys9' ws9' hys9' hlen9' hws9'; (first | unfold FinE | unfold FinA); intro D9' h9' tk9' F9' N9' o9')); (try simp only [LCg.Off3, and_true] at off'))))
local macro_rules | `(tactic| walk_at "call ref") => `(tactic| (k_here; (try dsimp only [List.cons_append, List.nil_append]); k_dflt (refine' lw_at (k := 4) ?kA ?kF ?kB ?kX ?kT ?kN ?kl ?kI ?kn ?kk8 ?kk ?kd ?ku ?_; (case kA => rfl); (case kF => k_asm); (case kB => assumption); (case kX => assumption); (case kT => assumption); (case kN => k_asm); (case kl => assumption); (case kI => assumption); (case kn => assumption); (case kk8 => decide); (case kk => rfl); (case kd => ktr_room); (case ku => decide)); intro t7' h7' k7' F7' N7'))
local macro_rules | `(tactic| walk_at "call ref") => `(tactic| (k_here; (try dsimp only [List.cons_append, List.nil_append]); k_dflt (refine' lw_at ?kA ?kF ?kB ?kX ?kT ?kN ?kl ?kI ?kn ?kk8 ?kk ?kd ?ku ?_; (case kA => rfl); (case kF => k_asm); (case kB => assumption); (case kX => assumption); (case kT => assumption); (case kN => k_asm); (case kl => assumption); (case kI => assumption); (case kn => assumption); (case kk8 => exact Nat.lt_trans (by assumption) (by decide)); (case kk => rfl); (case kd => ktr_room); (case ku => decide)); intro t7' h7' k7' F7' N7'))
local macro_rules | `(tactic| walk_at "call ref") => `(tactic| (k_here; (try dsimp only [List.cons_append, List.nil_append]); k_dflt (refine' lw_word ?kA ?kF ?kB ?kX ?kT ?kN ?kk ?kd ?ku ?_; (case kA => rfl); (case kF => k_asm); (case kB => assumption); (case kX => assumption); (case kT => assumption); (case kN => k_asm); (case kk => rfl); (case kd => ktr_room); (case ku => decide)); intro wd7' t7' h7' k7' hg7' F7' N7'))
theorem pick4W {prog : Program} {w : World} {A : Around} {E : Value → Shared → Prop} {s : Shared} {value slice : PySem.Expr} {Sg : Addr} {n k : Nat} {u : Tok} {i0 i1 i2 i3 : Int} {t0 t1 t2 t3 : Tok} {h₀ : Heap} {L : Addr} {r : List (Addr × Obj)} {Q : Value → Shared → Prop} (N : News h₀ L s.heap ((Sg, listOf #[.int i0 t0, .int i1 t1, .int i2 t2, .int i3 t3] n) :: r)) (hk : k < 4)
    (h : News h₀ L s.heap r → ∀ o t, Q (.int o t) s)
    (hs : subscripted slice false (.ref Sg) (.int (k : Int) u) = operate [.ref Sg, .int (k : Int) u] (getItem (.ref Sg) (.int (k : Int) u)) := by with_unfolding_all rfl) (hg : ∀ r, letTemporaryGo value (.ref Sg) r = pure () := by intro _; with_unfolding_all rfl) :
    wpAny (model prog w) A (subscriptTail value slice (.ref Sg) (.int (k : Int) u)) Q E s := pick4 (N _ (.head _)).1 hk (h fun p hp => N p (.tail _ hp)) hs hg
local macro_rules | `(tactic| walk_at "subscriptTail") => `(tactic| (k_here; k_dflt (refine pick4W (by assumption) (by assumption) ?_); intro N8' o8' t8'))
local macro_rules | `(tactic| walk_at "pyIter ref") => `(tactic| (k_here; k_dflt (refine' w1_loop1 ?hh ?F ?N ?hL ?hco ?hS ?hG ?hn (range4 _).2.2.2 ?tw ?dw; (case hh => rfl); (case F => assumption); (case N => assumption); (case hL => rfl); (case hco => assumption); (case hS => assumption); (case hG => assumption); (case hn => assumption)); (case' tw => intro wd6' t6' nx6' h6' tk6' own6' hg6' hT6' h446' F6' N6'); (case' dw => intro nx6' u6' h6' tk6' hf6' F6' N6')))
local macro_rules | `(tactic| walk_at "call ref") => `(tactic| (k_here; (try dsimp only [List.cons_append, List.nil_append]); k_dflt (refine' lw_quote ?kA ?kF ?kB ?kX ?kT ?kN ?kg ?kk ?kd ?ku ?_; (case kA => rfl); (case kF => k_asm); (case kB => assumption); (case kX => assumption); (case kT => assumption); (case kN => k_asm); (case kg => assumption); (case kk => rfl); (case kd => ktr_room); (case ku => decide)); intro t7' h7' k7' F7' N7'))
local macro_rules | `(tactic| walk_at "call ref") => `(tactic| (k_here; (try dsimp only [List.cons_append, List.nil_append]); k_dflt (refine' lw_quoteF ?kA ?kF ?kB ?kX ?kT ?kN ?kg ?kk ?kd ?ku ?_; (case kA => rfl); (case kF => k_asm); (case kB => assumption); (case kX => assumption); (case kT => assumption); (case kN => k_asm); (case kg => assumption); (case kk => rfl); (case kd => ktr_room); (case ku => decide)); intro t7' h7' k7' F7' N7'))
local macro_rules | `(tactic| walk_at "call ref") => `(tactic| (k_here; (try dsimp only [List.cons_append, List.nil_append]); k_dflt (refine' lw_unq1 ?kg ?kA ?kF ?kB ?kX ?kT ?kN ?kx ?k44 ?kk ?kd ?ku ?_; (case kA => rfl); (case kF => k_asm); (case kB => assumption); (case kX => assumption); (case kT => assumption); (case kN => k_asm); (case kg => assumption); (case kx => assumption); (case k44 => assumption); (case kk => rfl); (case kd => ktr_room); (case ku => decide)); intro t7' h7' k7' nx7' hT7' F7' N7'))
local macro_rules | `(tactic| walk_at "call ref") => `(tactic| (k_here; (try dsimp only [List.cons_append, List.nil_append]); k_dflt (refine' lw_unq2 ?kg ?kA ?kF ?kB ?kX ?kT ?kN ?kx ?k44 ?kk ?kd ?ku ?_; (case kA => rfl); (case kF => k_asm); (case kB => assumption); (case kX => assumption); (case kT => assumption); (case kN => k_asm); (case kg => assumption); (case kx => assumption); (case k44 => assumption); (case kk => rfl); (case kd => ktr_room); (case ku => decide)); intro t7' h7' k7' nx7' hT7' F7' N7'))
local macro_rules | `(tactic| walk_at "compareOp NotEq str str") => `(tactic| (k_here; (with_reducible refine ne_same ?_)))
local macro_rules | `(tactic| walk_at "W1End") => `(tactic| (k_here; show W1Fin _ _ _ _ _ _; k_dflt (refine' ⟨_, _, _, _, rfl, by assumption, by assumption, by assumption, ?e4⟩; (case e4 => (intro z hz; simp only [hz, if_false])))))
theorem len4 {ws : List (List Nat)} {X : Int} (h : ws.length = (1 + X.fmod 4).toNat) : ws.length ≤ 4 := by have := (range4 X).2.2.1; omega
theorem le500' {v : List Nat} (h : v.length ≤ 200) : v.length ≤ 500 := by omega
theorem tab_of3 {h₀ h : Heap} {L : Addr} {m : Str → Option Value} {nx : List (Addr × Obj)} {a b : Addr × Obj} (hf : FullLed h₀ nx) (F : Fr h₀ L h m) (N : News h₀ L h (a :: b :: nx)) : TabFull h := full_tab (r := []) hf F fun p hp => N p (by rw [List.append_nil] at hp; exact .tail _ (.tail _ hp))
local macro_rules | `(tactic| walk_at "call ref") => `(tactic| (k_here; (try dsimp only [List.cons_append, List.nil_append]); k_dflt (refine' lw_dump ?kA ?kF ?kB ?kX ?kT ?kN ?km ?kS ?kg ?kn ?kk ?kd ?ku ?_; (case kA => rfl); (case kF => k_asm); (case kB => assumption); (case kX => assumption); (case kT => assumption); (case kN => k_asm); (case km => exact .head _); (case kS => assumption); (case kg => assumption); (case kn => exact len4 (by assumption)); (case kk => rfl); (case kd => ktr_room); (case ku => decide)); intro t7' h7' k7' F7' N7' hl7'))
local macro_rules | `(tactic| walk_at "call ref") => `(tactic| (k_here; (try dsimp only [List.cons_append, List.nil_append]); k_dflt (refine' lw_plist (law_list _) (le500' (by assumption)) ?kA ?kF ?kB ?kX ?kT ?kN ?kt ?kk ?kd ?ku ?_; (case kA => rfl); (case kF => k_asm); (case kB => assumption); (case kX => assumption); (case kT => assumption); (case kN => k_asm); (case kt => exact tab_of3 (by assumption) (by assumption) (by assumption)); (case kk => rfl); (case kd => ktr_room); (case ku => decide)); intro l7' ys7' h7' k7' F7' N7' hS7'))
local macro_rules | `(tactic| walk_at "compareOp NotEq ref ref") => `(tactic| (k_here; k_dflt (refine' ne_wordsN ?N ?hi ?hj ?hg ?hu ?_; (case N => assumption); (case hi => assumption); (case hj => assumption); (case hg => assumption); (case hu => exact of_decide_eq_true (by rfl)))))
theorem notIn_W {prog : Program} {w : World} {A : Around} {E : Value → Shared → Prop} {s : Shared} {l : List Nat} {y : Str} {c : Nat} {t u : Tok} {Q : Value → Shared → Prop} (hy : y = ⟨#[c]⟩) (h : Q (.bool (!(decide (c ∈ l)))) s) : wpAny (model prog w) A (compareOp .NotIn (.str y u) (.str (S l) t)) Q E s := by
  subst hy
  refine PyProof.Rows.notIn_str ?_
  rw [StrLaws.found_one, cps_S]; exact h
theorem dq_c : Str.ofString "\"" = ⟨#[34]⟩ := by decide +kernel
theorem co_c : Str.ofString "," = ⟨#[44]⟩ := by decide +kernel
local macro_rules | `(tactic| walk_at "compareOp NotIn str str") => `(tactic| (k_here; k_dflt (first | refine notIn_W dq_c ?_ | refine notIn_W co_c ?_)))
def plainP (l : List Nat) : Bool := !(decide (34 ∈ l)) && !(decide (44 ∈ l))
theorem plain_t {l : List Nat} (h1 : ¬ 34 ∈ l) (h2 : ¬ 44 ∈ l) : plainP l = true := by unfold plainP; rw [decide_eq_false h1, decide_eq_false h2]; rfl
theorem plain_f1 {l : List Nat} (h1 : 34 ∈ l) : plainP l = false := by unfold plainP; rw [decide_eq_true h1]; rfl
theorem plain_f2 {l : List Nat} (h1 : 44 ∈ l) : plainP l = false := by unfold plainP; rw [decide_eq_true h1, Bool.not_true, Bool.and_false]
theorem good500 {ws : List (List Nat)} (h : ∀ wd ∈ ws, GoodW wd) : ∀ wd ∈ ws, wd.length ≤ 500 := fun wd hw => by have := (h wd hw).1; omega
theorem srcLed {h₀ : Heap} {ax : Addr} {ys : List Value} {news : List (Addr × Obj)} (h : (ax, lst ys) ∈ news) : SrcAt h₀ ax ys.toArray news := .inr ⟨_, h, rfl, _, rfl⟩
theorem le501 {ys : List Value} {ws : List (List Nat)} {X : Int} (h : StrsAre ys (ws.map S)) (hn : ws.length = (1 + X.fmod 4).toNat) : ys.toArray.size ≤ sizeLine := strs_le h (by have := len4 hn; omega)
local macro_rules | `(tactic| walk_at "CompSrcT") => `(tactic| (k_here; k_dflt (refine' CompSrcT.ledger (by rfl) (by k_asm) (by k_asm) ?km ?kz ?_; (case km => first | exact List.mem_cons_of_mem _ (List.mem_cons_self ..) | exact List.mem_cons_self ..); (case kz => exact le501 (by assumption) (by assumption)); intro g'; refine' rest_filtS (f := fun l => l) plainP (its := List.toArray _) (by assumption) (srcLed (by first | exact List.mem_cons_of_mem _ (List.mem_cons_self ..) | exact List.mem_cons_self ..)) (good500 (by assumption)) (fun wd' u' I' oI' C' oC' D' m' ys' h' tk' E' hl' hl2' hw' hC' hx' F' N' off' ne' => ?_) ?fin; (case' fin => (intro ys9' hys9'; (first | unfold FinE | unfold FinA); intro D9' h9' tk9' F9' N9' o9')); (try simp only [LCg.Off3, and_true] at off'))))
local macro_rules | `(tactic| walk_at "FEl") => `(tactic| exact ⟨plain_t (by assumption) (by assumption), ⟨_, rfl⟩, rfl⟩)
local macro_rules | `(tactic| walk_at "FNo") => `(tactic| exact ⟨(by first | exact plain_f1 (by assumption) | exact plain_f2 (by assumption)), rfl⟩)
theorem good_plain {ws : List (List Nat)} (h : ∀ wd ∈ ws, GoodW wd) : ∀ wd ∈ (ws.filter plainP).map (fun l => l), GoodW wd := fun wd hw => by
  obtain ⟨x, hx, rfl⟩ := List.mem_map.mp hw
  exact h x (List.mem_filter.mp hx).1
theorem len_plain {ws : List (List Nat)} {X : Int} (h : ws.length = (1 + X.fmod 4).toNat) : ((ws.filter plainP).map fun l => l).length ≤ 4 := by
  rw [List.length_map]
  exact Nat.le_trans (List.length_filter_le _ _) (len4 h)
local macro_rules | `(tactic| walk_at "call ref") => `(tactic| (k_here; (try dsimp only [List.cons_append, List.nil_append]); k_dflt (refine' lw_dump ?kA ?kF ?kB ?kX ?kT ?kN ?km ?kS ?kg ?kn ?kk ?kd ?ku ?_; (case kA => rfl); (case kF => k_asm); (case kB => assumption); (case kX => assumption); (case kT => assumption); (case kN => k_asm); (case km => exact .head _); (case kS => assumption); (case kg => exact good_plain (by assumption)); (case kn => exact len_plain (by assumption)); (case kk => rfl); (case kd => ktr_room); (case ku => decide)); intro t7' h7' k7' F7' N7' hl7'))
theorem len_x {x : List Nat} (h : x.length ≤ 68) : x.length ≤ 400 := by omega
theorem len_app {x : List Nat} (h : x.length ≤ 68) : ([32, 44, 32] ++ x).length ≤ 400 := by simp; omega
theorem len_y {x : List Nat} (h : x.length ≤ 68) : (([32, 44, 32] ++ x) ++ [44]).length ≤ 500 := by simp; omega
theorem plain_free {ws : List (List Nat)} : ∀ wd ∈ (ws.filter plainP).map (fun l => l), 44 ∉ wd := fun wd hw => by
  obtain ⟨x, hx, rfl⟩ := List.mem_map.mp hw
  have := (List.mem_filter.mp hx).2
  unfold plainP at this
  simp only [Bool.and_eq_true, Bool.not_eq_true', decide_eq_false_iff_not] at this
  exact this.2
theorem tab_of5 {h₀ h : Heap} {L : Addr} {m : Str → Option Value} {nx : List (Addr × Obj)} {a b c d : Addr × Obj} (hf : FullLed h₀ nx) (F : Fr h₀ L h m) (N : News h₀ L h (a :: b :: c :: d :: nx)) : TabFull h := full_tab (r := []) hf F fun p hp => N p (by rw [List.append_nil] at hp; exact .tail _ (.tail _ (.tail _ (.tail _ hp))))
local macro_rules | `(tactic| walk_at "call ref") => `(tactic| (k_here; (try dsimp only [List.cons_append, List.nil_append]); k_dflt (refine' lw_dumpP ?k0 ?kA ?kF ?kB ?kX ?kT ?kN ?km ?kS ?kg ?kn ?kk ?kd ?ku ?_; (case k0 => (dsimp only; omega)); (case kA => rfl); (case kF => k_asm); (case kB => assumption); (case kX => assumption); (case kT => assumption); (case kN => k_asm); (case km => exact .head _); (case kS => assumption); (case kg => exact good_plain (by assumption)); (case kn => exact len_plain (by assumption)); (case kk => rfl); (case kd => ktr_room); (case ku => decide)); intro t7' h7' k7' hk7' F7' N7'))
local macro_rules | `(tactic| walk_at "call builtin:str.replace") => `(tactic| (k_here; (try dsimp only [List.cons_append, List.nil_append]); k_dflt (refine law_rep (by omega) (by omega) (by omega) plain_free (good_plain (by assumption)) (len_plain (by assumption)) ?_); intro x7' t7' k7' hx7' hp7'))
local macro_rules | `(tactic| walk_at "binaryOp Add str str") => `(tactic| (k_here; k_dflt (refine cat_W rfl cm_c (len_app (by assumption)) (by decide) ?_); intro t8' k8'))
local macro_rules | `(tactic| walk_at "binaryOp Add str str") => `(tactic| (k_here; k_dflt (refine cat_W sp_c rfl (by decide) (len_x (by assumption)) ?_); intro t8' k8'))
local macro_rules | `(tactic| walk_at "call ref") => `(tactic| (k_here; (try dsimp only [List.cons_append, List.nil_append]); k_dflt (refine' lw_plist (by assumption) (len_y (by assumption)) ?kA ?kF ?kB ?kX ?kT ?kN ?kt ?kk ?kd ?ku ?_; (case kA => rfl); (case kF => k_asm); (case kB => assumption); (case kX => assumption); (case kT => assumption); (case kN => k_asm); (case kt => exact tab_of5 (by assumption) (by assumption) (by assumption)); (case kk => rfl); (case kd => ktr_room); (case ku => decide)); intro l7' ys7' h7' k7' F7' N7' hS7'))
local macro_rules | `(tactic| walk_at "compareOp NotEq ref ref") => `(tactic| (k_here; k_dflt (refine' ne_wordsN ?N ?hi ?hj ?hg ?hu ?_; (case N => assumption); (case hi => assumption); (case hj => assumption); (case hg => exact good_plain (by assumption)); (case hu => exact of_decide_eq_true (by rfl)))))
local macro_rules | `(tactic| walk_at "exec For Tuple Call cons nil") => `(tactic| (k_here; k_dflt (refine' For_turns ?F ?_ ?hs ?hE; (case F => assumption); (case hs => intro _; rfl); (case hE => passes_own))))
local macro_rules | `(tactic| walk_at "call type:enumerate") => `(tactic| (k_here; (try dsimp only [List.cons_append, List.nil_append]); k_dflt (refine' en_loopW ?hh ?F ?N ?hL ?hT ?hO ?hS ?hG ?hn ?hdt ?hdo ?tw ?dw ?hxk ?hxv ?hp; (case hh => rfl); (case F => assumption); (case N => assumption); (case hL => rfl); (case hT => assumption); (case hO => assumption); (case hS => assumption); (case hG => assumption); (case hn => exact len4 (by assumption)); (case hdt => assumption); (case hdo => assumption); (case hxk => rfl); (case hxv => rfl); (case hp => rfl)); (case' tw => intro i6' wd6' ti6' u6' ot6' oo6' kt6' ko6' js6' h6' tk6' own6' hi6' hg6' hd6' he6' hR6' hP6' hJ6' hf6' hg7' F6' N6'); (case' dw => intro ot6' oo6' kt6' ko6' js6' u6' h6' tk6' hd6' he6' hR6' hP6' hJ6' F6' N6' hf6' hg7')))
local macro_rules | `(tactic| walk_at "binaryOp Pow int int") => `(tactic| (k_here; k_dflt (refine pow2_W (by assumption) ?_); intro t8' tk8'))
local macro_rules | `(tactic| walk_at "binaryOp FloorDiv int int") => `(tactic| (k_here; k_dflt (refine div2_W (by assumption) ?_); intro t8' tk8'))
local macro_rules | `(tactic| walk_at "call type:str") => `(tactic| (k_here; (try dsimp only [List.cons_append, List.nil_append]); k_dflt (refine str_k (by assumption) ?_); intro t8' tk8'))
local macro_rules | `(tactic| walk_at "binaryOp Add str str") => `(tactic| (k_here; (with_reducible refine keyk_W (by assumption) ?_); intro t8' k8'))
local macro_rules | `(tactic| walk_at "call ref") => `(tactic| (k_here; (try dsimp only [List.cons_append, List.nil_append]); k_dflt (refine' lw_at (k := 5) ?kA ?kF ?kB ?kX ?kT ?kN ?kl ?kI ?kn ?kk8 ?kk ?kd ?ku ?_; (case kA => rfl); (case kF => k_asm); (case kB => assumption); (case kX => assumption); (case kT => assumption); (case kN => k_asm); (case kl => assumption); (case kI => assumption); (case kn => assumption); (case kk8 => decide); (case kk => rfl); (case kd => ktr_room); (case ku => decide)); intro t7' h7' k7' F7' N7'))
local macro_rules | `(tactic| walk_at "setItem ref str") => `(tactic| (k_here; k_dflt ((with_reducible refine' set_tab ?F ?N ?off ?hd ?hR ?hJ ?hi ?hv ?_); (case F => assumption); (case N => assumption); (case off => assumption); (case hd => assumption); (case hR => assumption); (case hJ => assumption); (case hi => assumption); (case hv => first | exact val_some | exact val_none)); intro h5' o5' kvs5' tk5' F5' N5' hd5' hR5'))
local macro_rules | `(tactic| walk_at "setItem ref str") => `(tactic| (k_here; k_dflt ((with_reducible refine' set_opt ?F ?N ?off ?offO ?hd ?hR ?hJ ?hi ?_); (case F => assumption); (case N => assumption); (case off => assumption); (case offO => assumption); (case hd => assumption); (case hR => assumption); (case hJ => assumption); (case hi => assumption)); intro h5' o5' kvs5' tk5' F5' N5' hd5' hR5'))
local macro_rules | `(tactic| walk_at "EnEnd") => `(tactic| (k_here; k_dflt (first | (exfalso; exact fmod_both (by assumption) (by assumption)) | (exfalso; exact fmod_two (by assumption) (by assumption)) | (show EnFin _ _ _ _ _ _ _ _ _ _; refine' en_some ?F ?N ?hd ?he ?hR ?hP ?hJ ?hg ?hm; (case F => assumption); (case N => assumption); (case hd => assumption); (case he => assumption); (case hR => assumption); (case hP => assumption); (case hJ => assumption); (case hg => assumption); (case hm => (intro z h1 h2; simp only [h1, h2, if_false]))) | (show EnFin _ _ _ _ _ _ _ _ _ _; refine' en_none ?F ?N ?hd ?he ?hR ?hP ?hJ ?hm; (case F => assumption); (case N => assumption); (case hd => assumption); (case he => assumption); (case hR => assumption); (case hP => assumption); (case hJ => assumption); (case hm => (intro z h1 h2; simp only [h1, h2, if_false]))))))
theorem one_le {ws : List (List Nat)} {X : Int} (h : ws.length = (1 + X.fmod 4).toNat) : 1 ≤ ws.length := by have := (range4 X).2.2.2; omega
theorem set_key0W {w : World} {A : Around} {E : Value → Shared → Prop} {s : Shared} {h₀ : Heap} {L T O : Addr} {ot oo : Obj} {ko : List (Str × Value)} {js : Js} {i : Nat} {news r : List (Addr × Obj)} {t u : Tok} {m : Str → Option Value} {Q : Unit → Shared → Prop} {q : Js} (F : Fr h₀ L s.heap m) (N : News h₀ L s.heap news) (off : OwnOff ((O, oo) :: r) [T]) (offO : OwnOff r [O]) (hT : (T, ot) ∈ news) (hO : (O, oo) ∈ news) (hr : ∀ p ∈ r, p ∈ news) (hd : oo.IsDictOf (PySem.strKind PG w) ko) (hR : RowsAre ko (optsOf (ssOf js))) (hJ : JsG i js) (hi : i ≤ 4) (he : js = (0, none) :: q)
    (h : ∀ h' oo' ko' tk', Fr h₀ L h' m → News h₀ L h' ((T, ot) :: (O, oo') :: r) → oo'.IsDictOf (PySem.strKind PG w) ko' → RowsAre ko' (endRows js) → Q () { s with heap := h', toks := tk' }) :
    wpAny (model PG w) A (setItem (.ref O) (.str (Str.ofString "key0") t) (.str (Str.ofString "other") u)) Q E s :=
  set_key0 (pre := []) F (fun p hp => N p (by
    rcases List.mem_cons.mp hp with e | hp
    · rw [e]; exact hT
    rcases List.mem_cons.mp hp with e | hp
    · rw [e]; exact hO
    · exact hr p hp)) off offO hd hR hJ hi he h
theorem junk_c : Str.ofString " ;; \tjunk; " = S [32, 59, 59, 32, 9, 106, 117, 110, 107, 59, 32] := by decide +kernel
local macro_rules | `(tactic| walk_at "call ref") => `(tactic| (k_here; (try dsimp only [List.cons_append, List.nil_append]); k_dflt (refine' lw_dumpd ?kA ?kF ?kB ?kX ?kT ?kN ?km ?hd ?hR ?hJ ?hi ?hlo ?kk ?kd ?ku ?_; (case kA => rfl); (case kF => k_asm); (case kB => assumption); (case kX => assumption); (case kT => assumption); (case kN => k_asm); (case km => exact .head _); (case hd => assumption); (case hR => assumption); (case hJ => assumption); (case hi => exact len4 (by assumption)); (case hlo => assumption); (case kk => rfl); (case kd => ktr_room); (case ku => decide)); intro t7' h7' k7' F7' N7'))
local macro_rules | `(tactic| walk_at "call ref") => `(tactic| (k_here; (try dsimp only [List.cons_append, List.nil_append]); k_dflt (refine' lw_pdict ?kA ?kF ?kB ?kX ?kT ?kN ?hJ ?hi ?kt ?kk ?kd ?ku ?_; (case kA => rfl); (case kF => k_asm); (case kB => assumption); (case kX => assumption); (case kT => assumption); (case kN => k_asm); (case hJ => assumption); (case hi => exact len4 (by assumption)); (case kt => exact tab_sub (by assumption) (by assumption) (by assumption) (by intro p hp; simp only [List.mem_cons, hp, or_true])); (case kk => rfl); (case kd => ktr_room); (case ku => decide)); intro D7' o7' kvs7' h7' k7' F7' N7' hd7' hR7' lo7'))
local macro_rules | `(tactic| walk_at "call ref") => `(tactic| (k_here; (try dsimp only [List.cons_append, List.nil_append]); k_dflt (refine' lw_opts ?kA ?kF ?kB ?kX ?kT ?kN ?km ?hd ?hR ?hJ ?hi ?hlo ?kk ?kd ?ku ?_; (case kA => rfl); (case kF => k_asm); (case kB => assumption); (case kX => assumption); (case kT => assumption); (case kN => k_asm); (case km => first | exact ms0 | exact ms1 | exact ms2 | exact ms3 | exact ms4 | exact ms5 | exact ms6 | exact ms7); (case hd => assumption); (case hR => assumption); (case hJ => assumption); (case hi => exact len4 (by assumption)); (case hlo => assumption); (case kk => rfl); (case kd => ktr_room); (case ku => decide)); intro t7' h7' k7' F7' N7'))
local macro_rules | `(tactic| walk_at "call ref") => `(tactic| (k_here; (try dsimp only [List.cons_append, List.nil_append]); k_dflt ((with_reducible refine' lw_popts2 ?kA ?kF ?kB ?kX ?kT ?kN ?hJ ?hi ?kt ?kk ?kd ?ku ?_); (case kA => rfl); (case kF => k_asm); (case kB => assumption); (case kX => assumption); (case kT => assumption); (case kN => k_asm); (case hJ => assumption); (case hi => exact len4 (by assumption)); (case kt => exact tab_sub (by assumption) (by assumption) (by assumption) (by intro p hp; simp only [List.mem_cons, hp, or_true])); (case kk => rfl); (case kd => ktr_room); (case ku => decide)); intro P7' D7' t7' o7' kvs7' h7' k7' F7' N7' hd7' hR7' lo7'))
local macro_rules | `(tactic| walk_at "compareOp NotEq ref ref") => `(tactic| (k_here; k_dflt (refine' dict_neN ?N ?hd ?he ?hR ?hP ?hJ ?hi ?la ?lb ?hu ?_; (case N => assumption); (case hd => assumption); (case he => assumption); (case hR => assumption); (case hP => assumption); (case hJ => assumption); (case hi => exact len4 (by assumption)); (case la => assumption); (case lb => assumption); (case hu => exact of_decide_eq_true (by rfl)))))
local macro_rules | `(tactic| walk_at "compareOp NotEq ref ref") => `(tactic| (k_here; k_dflt (refine' tup_neN ?N ?hm ?hd ?he ?hR ?hP ?hJ ?hi ?la ?lb ?hu ?hv ?_; (case N => assumption); (case hd => assumption); (case hm => first | exact ms0 | exact ms1 | exact ms2 | exact ms3 | exact ms4); (case he => assumption); (case hR => assumption); (case hP => assumption); (case hJ => assumption); (case hi => exact len4 (by assumption)); (case la => assumption); (case lb => assumption); (case hu => exact of_decide_eq_true (by rfl)); (case hv => exact of_decide_eq_true (by rfl))); intro N8'; (try dsimp only at N8')))
local macro_rules | `(tactic| walk_at "newTuple") => `(tactic| (k_here; k_dflt (refine' kup_newTuple ?F ?N ?_ ?z; (case F => k_asm); (case N => k_asm); (case z => kmk_size)); intro D' h' F' N' l1; (try k_lt l1)))
local macro_rules | `(tactic| walk_at "callWith ref") => `(tactic| (k_here; k_dflt (refine' callWith_K ?k1 ?k2 ?_; (case k1 => k_asm); (case k2 => k_is); k_whole)))
theorem len_a : (joinL [59, 32] ([valT] ++ [looseA])).length ≤ 400 := by decide
theorem len_b : (joinL [59, 32] ([valT] ++ [looseA]) ++ [32, 59, 59, 32, 9, 106, 117, 110, 107, 59, 32]).length ≤ 400 := by decide
theorem len_c {i : Nat} {js : Js} (h : JsG i js) (hi : i ≤ 4) : (joinL [59, 32] (([] : List (List Nat)) ++ (rowsOf js).flatMap segO)).length ≤ 400 := Nat.le_trans (segO_le (hs := []) h hi (fun _ h => nomatch h) (by decide)) (by decide)
local macro_rules | `(tactic| walk_at "call ref") => `(tactic| (k_here; (try dsimp only [List.cons_append, List.nil_append]); k_dflt (refine' lw_optsJ ?kA ?kF ?kB ?kX ?kT ?kN ?hd ?hlo ?kk ?kd ?ku ?_; (case kA => rfl); (case kF => k_asm); (case kB => assumption); (case kX => assumption); (case kT => assumption); (case kN => assumption); (case hd => assumption); (case hlo => assumption); (case kk => rfl); (case kd => ktr_room); (case ku => decide)); intro t7' h7' k7' F7' N7'))
local macro_rules | `(tactic| walk_at "call ref") => `(tactic| (k_here; (try dsimp only [List.cons_append, List.nil_append]); k_dflt (refine' lw_optsN ?kA ?kF ?kB ?kX ?kT ?kN ?km ?hd ?hR ?hJ ?hi ?hlo ?kk ?kd ?ku ?_; (case kA => rfl); (case kF => k_asm); (case kB => assumption); (case kX => assumption); (case kT => assumption); (case kN => k_asm); (case km => first | exact ms0 | exact ms1 | exact ms2 | exact ms3 | exact ms4 | exact ms5 | exact ms6 | exact ms7); (case hd => assumption); (case hR => assumption); (case hJ => assumption); (case hi => exact len4 (by assumption)); (case hlo => assumption); (case kk => rfl); (case kd => ktr_room); (case ku => decide)); intro t7' h7' k7' F7' N7'))
local macro_rules | `(tactic| walk_at "binaryOp Add str str") => `(tactic| (k_here; (with_reducible refine' cat_W rfl rfl ?h1 ?h2 ?_); (case h1 => k_dflt (exact len_b)); (case h2 => k_dflt (exact len_c (by assumption) (len4 (by assumption)))); intro t8' k8'))
local macro_rules | `(tactic| walk_at "binaryOp Add str str") => `(tactic| (k_here; (with_reducible refine cat_W rfl junk_c len_a (by decide) ?_); intro t8' k8'))
local macro_rules | `(tactic| walk_at "call ref") => `(tactic| (k_here; (try dsimp only [List.cons_append, List.nil_append]); k_dflt ((with_reducible refine' lw_loose2 ?kA ?kF ?kB ?kX ?kT ?kN ?hJ ?hi ?h1 ?kt ?kk ?kd ?ku ?_); (case kA => rfl); (case kF => k_asm); (case kB => assumption); (case kX => assumption); (case kT => assumption); (case kN => k_asm); (case hJ => assumption); (case hi => exact len4 (by assumption)); (case h1 => exact one_le (by assumption)); (case kt => exact tab_sub (by assumption) (by assumption) (by assumption) (by intro p hp; simp only [List.mem_cons, hp, or_true])); (case kk => rfl); (case kd => ktr_room); (case ku => decide)); intro P7' D7' t7' o7' kvs7' h7' k7' F7' N7' hd7' hR7' lo7'))
local macro_rules | `(tactic| walk_at "compareOp NotIn str ref") => `(tactic| (k_here; k_dflt (refine' notin_W ?N ?hm ?hd ?hR ?hJ ?hi ?h1 ?lo ?ny ?nn; (case N => assumption); (case hm => first | exact ms0 | exact ms1 | exact ms2 | exact ms3 | exact ms4); (case hd => assumption); (case hR => assumption); (case hJ => assumption); (case hi => exact len4 (by assumption)); (case h1 => exact one_le (by assumption)); (case lo => assumption)); (case' ny => intro q8' tk8' he8'); (case' nn => intro tk8' hR8')))
local macro_rules | `(tactic| walk_at "setItem ref str") => `(tactic| (k_here; k_dflt ((with_reducible refine' set_key0W ?F ?N ?off ?offO ?hT ?hO ?hr ?hd ?hR ?hJ ?hi ?he ?_); (case F => assumption); (case N => assumption); (case off => assumption); (case offO => assumption); (case hT => first | exact ms0 | exact ms1 | exact ms2 | exact ms3 | exact ms4); (case hO => first | exact ms0 | exact ms1 | exact ms2 | exact ms3 | exact ms4); (case hr => (intro p hp; simp only [List.mem_cons] at hp ⊢; rcases hp with hp | hp <;> simp only [hp, true_or, or_true])); (case hd => assumption); (case hR => assumption); (case hJ => assumption); (case hi => exact len4 (by assumption)); (case he => assumption)); intro h5' o5' kvs5' tk5' F5' N5' hd5' hR5'))
local macro_rules | `(tactic| walk_at "compareOp Eq ref ref") => `(tactic| (k_here; k_dflt (refine' tup_eqN ?N ?hm ?hd ?he ?hR ?hP ?hJ ?hi ?h1 ?la ?lb ?hu ?hv ?_; (case N => assumption); (case hd => assumption); (case hm => first | exact ms0 | exact ms1 | exact ms2 | exact ms3 | exact ms4); (case he => assumption); (case hR => assumption); (case hP => assumption); (case hJ => assumption); (case hi => exact len4 (by assumption)); (case h1 => exact one_le (by assumption)); (case la => assumption); (case lb => assumption); (case hu => exact of_decide_eq_true (by rfl)); (case hv => exact of_decide_eq_true (by rfl)))))
theorem grown_W {h₀ h : Heap} {L : Addr} {nx news : List (Addr × Obj)} (hf : FullLed h₀ nx) (N : News h₀ L h news) (hs : ∀ p ∈ nx, p ∈ news) : GrownAll [(48, 44)] h := by
  refine ⟨?_, trivial⟩
  obtain ⟨c, oc, _, e | ⟨e, _⟩⟩ := hf <;> subst e <;> exact GrownAt.of N (hs _ (.head _))
local macro_rules | `(tactic| walk_at "GrownAll") => `(tactic| (k_here; k_dflt (exact grown_W (by assumption) (by assumption) (by intro p hp; simp only [List.mem_cons, hp, or_true]))))
local macro_rules | `(tactic| walk_at "GoodW cons ok") => `(tactic| kc_close)
set_option maxRecDepth 100000 in
set_option maxHeartbeats 8000000 in
theorem lawgo : PySem.Challenge.rw_vm0023_01.Holds := Mine.hd (by
  k_go0
  w_on
  walk_at "my steps")
end
end Mine
end
theorem PySem.Challenge.cw_vm0023_01_holds : PySem.Challenge.rw_vm0023_01.Holds := by
  exact Mine.lawgo
