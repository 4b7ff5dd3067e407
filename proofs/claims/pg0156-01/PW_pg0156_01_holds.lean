import PyProof.Rows.All
import Wide.All
import OpenK.AllK
import Wide.FinOn
import PySem.Challenge.RW_pg0156_01
section
open PySem PySem.W PyProof.Rows
set_option Elab.async false
namespace Mine
set_option maxRecDepth 100000 in
set_option maxHeartbeats 8000000 in
open_top hd for PySem.Challenge.rw_pg0156_01
end Mine
end
section
open PySem PySem.W PyProof.Rows
set_option Elab.async false
namespace Mine
set_option maxRecDepth 100000
abbrev Ledger := List (Addr × Obj)
/-- all of add lies above all of news -/
def Above (add news : Ledger) : Prop := ∀ p ∈ add, ∀ q ∈ news, q.1 < p.1
theorem dpL {d a b n : Nat} (h : d + a < n) (k : b ≤ a) : d + b < n := Nat.lt_of_le_of_lt (Nat.add_le_add_left k d) h
theorem dpK {d a b n c : Nat} (h : d + a < n + c) (k : b + c ≤ a) : d + b < n := by omega
theorem fitN {j n : Nat} (h : j < n) (q : n ≤ 500) : (j : Int) < 2 ^ 63 := by omega
theorem szN {n : Nat} (h : n ≤ 500) : n ≤ sizeLine := by rw [sizeLine_eq]; exact Nat.le_trans h (by decide)
theorem szN1 {n : Nat} (h : n ≤ 500) : n + 1 ≤ sizeLine := by rw [sizeLine_eq]; exact Nat.le_trans (Nat.succ_le_succ h) (by decide)
theorem small_s {n : Nat} (h : n ≤ 500) : Builtin.Range.small 0 ((n : Int) + 1) 1 = true := small_one (by decide) (by decide) (by omega) (by omega)
theorem size_s {n : Nat} : Builtin.Range.rangeSize 0 ((n : Int) + 1) 1 = ((n + 1 : Nat) : Int) := by rw [rangeSize_nat]; omega
theorem neg1 {n k : Nat} (h : n = k + 1) : ((-1 : Int) + (n : Int)).toNat = k := by omega
theorem neg1le {n k : Nat} (h : n = k + 1) : -(n : Int) ≤ -1 := by omega
theorem Above.nil {news : Ledger} : Above [] news := fun _ h => nomatch h
theorem Above.cons {add news : Ledger} {a : Addr} {o : Obj} (h : Above add news) (k : ∀ q ∈ news, q.1 < a) : Above ((a, o) :: add) news := fun p hp => by
  rcases List.mem_cons.mp hp with rfl | hp
  · exact k
  · exact h p hp
theorem Above.append {a b news : Ledger} (h : Above a news) (k : Above b news) : Above (a ++ b) news := fun p hp =>
  (List.mem_append.mp hp).elim (h p) (k p)
theorem Above.mono {add a b : Ledger} (h : Above add b) (k : ∀ p ∈ a, p ∈ b) : Above add a := fun p hp q hq => h p hp q (k q hq)
theorem Above.ne {add news : Ledger} (h : Above add news) {a : Addr} {o : Obj} (k : (a, o) ∈ news) : ∀ p ∈ add, p.1 ≠ a := fun p hp => Nat.ne_of_gt (h p hp _ k)
theorem News.sub {h₀ h : Heap} {L : Addr} {a b : Ledger} (N : News h₀ L h b) (k : ∀ p ∈ a, p ∈ b) : News h₀ L h a := fun p hp => N p (k p hp)
theorem News.below {h₀ h : Heap} {L : Addr} {a : Ledger} (N : News h₀ L h a) : ∀ p ∈ a, p.1 < h.objs.size := fun p hp => Heap.lt_size (N p hp).1
section
variable (prog : Program) (w : World) (K : Frag) (p : Program) (loose : List Str) (mean : ExcName → Option Value) (mg mb : Str → Option Value)
/-- what a call of the def at f with these arguments makes: it keeps the ledger, lays add above it, and gives Out over add -/
def Con (dn : Nat) (f : Addr) (pos : List Value) (kw : List (Str × Value)) (news : Ledger) (Out : Ledger → Value → Prop) : Prop :=
  ∀ (dp un : Nat) (gd : Option (List Code)) (cn : Str) (cs : Scope) (a : Addr) (ccd : Value) (cl : List (Str × Addr)) (outer : List Env) (A₀ : Around) (base h₀ : Heap) (L : Addr) (m : Str → Option Value) (s : Shared)
    (Q E : Value → Shared → Prop),
    Below A₀ base outer h₀ → Fr h₀ L s.heap m → K.In h₀ → News h₀ L s.heap news → Top p loose mean mg mb h₀ → cs.kind = .function → dp + dn < recursionLimit → un + 8 * dn < cLine →
    (∀ r add h' tk', Fr h₀ L h' m → News h₀ L h' (add ++ news) → Above add news → Out add r → Q r { s with heap := h', toks := tk' }) →
    wpAny (model prog w) (ktrTop dp un gd cn cs L a ccd cl outer) (call (.ref f) pos kw) Q E s
end
/-- a body's end -/
inductive BEnd (g : Heap) (L : Addr) (news : Ledger) (Out : Ledger → Value → Prop) (s₁ : Shared) (fl : Flow) (s' : Shared) : Prop
  | mk (h' : Heap) (tk' : Nat) (m' : Str → Option Value) (add : Ledger) (q1 : s' = { s₁ with heap := h', toks := tk' }) (q2 : Fr g L h' m') (q3 : News g L h' (add ++ news)) (q4 : Above add news) (q5 : Out add (match fl with | .ret v => v | _ => .none)) : BEnd g L news Out s₁ fl s'
theorem BEnd.ret {g : Heap} {L : Addr} {news : Ledger} {Out : Ledger → Value → Prop} {s₁ : Shared} {v : Value} {h' : Heap} {tk' : Nat} {m' : Str → Option Value} (add : Ledger) (F : Fr g L h' m') (N : News g L h' (add ++ news)) (U : Above add news) (o : Out add v) :
    BEnd g L news Out s₁ (.ret v) { s₁ with heap := h', toks := tk' } := ⟨h', tk', m', add, rfl, F, N, U, o⟩
section
variable {prog : Program} {w : World} {K : Frag} {p : Program} {loose : List Str} {mean : ExcName → Option Value} {mg mb : Str → Option Value}
theorem con_def {dn : Nat} {f : Addr} {pos : List Value} {kw : List (Str × Value)} {news : Ledger} {Out : Ledger → Value → Prop}
    {name qual : Str} {params : Arguments} {body : List Stmt} {scope : Scope} {dV kV doc pm cdv ct oc : Value} {an od : Option Addr} {osl : Array (Option Value)} {binds : List (Str × Value)}
    (ho : K.lookup f = some ⟨oc, od, .func (fnOf name qual params body scope dV kV doc pm an cdv ct), osl⟩) (hcd : codeIn K cdv qual = true)
    (hbind : ∀ s : Shared, K.In s.heap → BindsTo s (fnOf name qual params body scope dV kV doc pm an cdv ct) ⟨pos, kw⟩ binds) (hloc : ∀ y ∈ binds, scope.names.lookup y.1 = some .local)
    (h : ∀ (dp un : Nat) (gd : Option (List Code)) (outer : List Env) (A₀ : Around) (base g : Heap) (L : Addr) (s : Shared),
      Below A₀ base outer g → Fr g L s.heap (fun y => binds.reverse.lookup y) → K.In g → News g L s.heap news → Top p loose mean mg mb g → dp + dn < recursionLimit + 1 → un + 8 * dn < cLine + 3 →
      wpAny (model prog w) (ktrTop dp un gd qual scope L f cdv [] outer) (execs body (envOf qual scope L f cdv)) (BEnd g L news Out s) (fun _ _ => False) s)
    (hco : scope.isCoroutine = false := by rfl) (hgen : scope.isGenerator = false := by rfl) (hk : scope.kind = .function := by rfl)
    (hcell : ∀ x ∈ scope.names, x.2 ≠ .cell := by decide) : Con prog w K p loose mean mg mb dn f pos kw news Out := by
  intro dp un gd cn cs a ccd cl outer A₀ base h₀ L m s Q E B F X N T hkc hd hu hret
  refine wpAny_call ?_
  refine code_def B F X N T rfl rfl hkc ho hcd (Nat.lt_of_le_of_lt (Nat.le_add_right dp dn) hd) (hbind s (X.keeps F.keep)) hloc (fun g L' h₁ FG F' N' B' X' T' => ?_) hco hgen hk hcell
  refine wpAny_mono (h (dp + 1) (un + 3) gd (envX cn cs L a ccd cl :: outer) _ base g L' { s with heap := h₁, toks := s.toks + binds.length } B' F' X' N' T' (by omega) (by omega)) (fun fl s' hb => ?_) fun _ _ e => e.elim
  obtain ⟨h', tk', m', add, rfl, F₂, N₂, U₂, o₂⟩ := hb
  exact leaveK_ F₂ N₂ fun kF kN => hret _ _ _ _ kF kN U₂ o₂
/-- the same of a def with cells -/
theorem con_defC {dn : Nat} {f : Addr} {pos : List Value} {kw : List (Str × Value)} {news : Ledger} {Out : Ledger → Value → Prop}
    {name qual : Str} {params : Arguments} {body : List Stmt} {scope : Scope} {dV kV doc pm cdv ct oc : Value} {an od : Option Addr} {osl : Array (Option Value)} {binds : List (Str × Value)}
    (ho : K.lookup f = some ⟨oc, od, .func (fnOf name qual params body scope dV kV doc pm an cdv ct), osl⟩) (hcd : codeIn K cdv qual = true)
    (hbind : ∀ s : Shared, K.In s.heap → BindsTo s (fnOf name qual params body scope dV kV doc pm an cdv ct) ⟨pos, kw⟩ binds) (hkind : (binds.all fun y => scope.names.lookup y.1 == some .local || scope.names.lookup y.1 == some .cell) = true)
    (hnd : ((cellsFrom 0 scope.names []).map (·.1)).Nodup)
    (h : ∀ (dp un : Nat) (gd : Option (List Code)) (outer : List Env) (A₀ : Around) (base g : Heap) (L : Addr) (cells : Ledger) (s : Shared),
      Below A₀ base outer g → Fr g L s.heap (bindL (envOfC qual scope L f cdv).kindOf binds fun _ => none) → K.In g → News g L s.heap (cells ++ news) →
      CellsAre (bindC (envOfC qual scope L f cdv).kindOf binds fun _ => none) (cellsFrom (L + 1) scope.names []) cells → (∀ p ∈ news, p.1 < L) → Top p loose mean mg mb g → dp + dn < recursionLimit + 1 → un + 8 * dn < cLine + 3 →
      wpAny (model prog w) (ktrTop dp un gd qual scope L f cdv (cellsFrom (L + 1) scope.names []) outer) (execs body (envOfC qual scope L f cdv)) (BEnd g L news Out s) (fun _ _ => False) s)
    (hco : scope.isCoroutine = false := by rfl) (hgen : scope.isGenerator = false := by rfl) (hk : scope.kind = .function := by rfl) : Con prog w K p loose mean mg mb dn f pos kw news Out := by
  intro dp un gd cn cs a ccd cl outer A₀ base h₀ L m s Q E B F X N T hkc hd hu hret
  refine wpAny_call ?_
  refine code_defC B F X N T rfl rfl hkc ho hcd (Nat.lt_of_le_of_lt (Nat.le_add_right dp dn) hd) (hbind s (X.keeps F.keep)) hkind hnd (fun g L' h₁ tk cells FG F' N' Y' B' X' T' l1 => ?_) hco hgen hk
  refine wpAny_mono (h (dp + 1) (un + 3) gd (envX cn cs L a ccd cl :: outer) _ base g L' cells { s with heap := h₁, toks := tk } B' F' X' N' Y' l1 T' (by omega) (by omega)) (fun fl s' hb => ?_) fun _ _ e => e.elim
  obtain ⟨h', tk', m', add, rfl, F₂, N₂, U₂, o₂⟩ := hb
  exact leaveK_ F₂ N₂ fun kF kN => hret _ _ _ _ kF kN U₂ o₂
/-- a sign at which the walk stands still -/
def Halt (P : Prop) : Prop := P
theorem halt {P : Prop} (h : Halt P) : P := h
theorem Con.use {dn : Nat} {f : Addr} {pos : List Value} {kw : List (Str × Value)} {news : Ledger} {Out : Ledger → Value → Prop}
    (C : Con prog w K p loose mean mg mb dn f pos kw news Out) {dp un : Nat} {gd : Option (List Code)} {cn : Str} {cs : Scope} {a : Addr} {ccd : Value} {cl : List (Str × Addr)} {outer : List Env} {A₀ : Around} {base h₀ : Heap} {L : Addr} {m : Str → Option Value} {s : Shared}
    {Q E : Value → Shared → Prop}
    (B : Below A₀ base outer h₀) (F : Fr h₀ L s.heap m) (X : K.In h₀) (N : News h₀ L s.heap news) (T : Top p loose mean mg mb h₀) (hd : dp + dn < recursionLimit) (hu : un + 8 * dn < cLine)
    (ret : ∀ r add h' tk', Fr h₀ L h' m → News h₀ L h' (add ++ news) → Above add news → Out add r → Q r { s with heap := h', toks := tk' }) (hk : cs.kind = .function := by rfl) :
    wpAny (model prog w) (ktrTop dp un gd cn cs L a ccd cl outer) (call (.ref f) pos kw) Q E s := C _ _ _ _ _ _ _ _ _ _ _ _ _ _ _ _ _ B F X N T hk hd hu ret
end
theorem drop_at {α : Type} {l : List α} {i : Nat} {x : α} (h : l[i]? = some x) : l.drop i = x :: l.drop (i + 1) := by
  obtain ⟨hi, rfl⟩ := List.getElem?_eq_some_iff.mp h
  exact List.drop_eq_getElem_cons hi
theorem take_at {α : Type} {l : List α} {i : Nat} {x : α} (hx : l[i]? = some x) : l.take (i + 1) = l.take i ++ [x] := by
  rw [List.take_add_one, hx]; rfl
theorem split_at {α : Type} {l : List α} {i : Nat} {x : α} (hx : l[i]? = some x) : l = l.take i ++ x :: l.drop (i + 1) := by
  rw [← drop_at hx]; exact (List.take_append_drop i l).symm
theorem nodup_at {α : Type} {l : List α} (h : l.Nodup) {i : Nat} {x : α} (hx : l[i]? = some x) : x ∉ l.take i := by
  intro hm
  rw [split_at hx] at h
  exact (List.nodup_append.mp h).2.2 x hm x (.head _) rfl
end Mine
namespace Mine
section
variable (prog : Program) (w : World) (K : Frag) (p : Program) (loose : List Str) (mean : ExcName → Option Value) (mg mb : Str → Option Value)
/-- as Con, with a premise on the base, and any ledger at the end -/
def ConF (dn : Nat) (f : Addr) (pos : List Value) (kw : List (Str × Value)) (Ex : Heap → Prop) (news : Ledger) (Fin : Ledger → Value → Prop) : Prop :=
  ∀ (dp un : Nat) (gd : Option (List Code)) (cn : Str) (cs : Scope) (a : Addr) (ccd : Value) (cl : List (Str × Addr)) (outer : List Env) (A₀ : Around) (base h₀ : Heap) (L : Addr) (m : Str → Option Value) (s : Shared)
    (Q E : Value → Shared → Prop),
    Below A₀ base outer h₀ → Fr h₀ L s.heap m → K.In h₀ → News h₀ L s.heap news → Top p loose mean mg mb h₀ → Ex h₀ → cs.kind = .function → dp + dn < recursionLimit → un + 8 * dn < cLine →
    (∀ r nx h' tk', Fr h₀ L h' m → News h₀ L h' nx → Fin nx r → Q r { s with heap := h', toks := tk' }) →
    wpAny (model prog w) (ktrTop dp un gd cn cs L a ccd cl outer) (call (.ref f) pos kw) Q E s
end
inductive BEndF (g : Heap) (L : Addr) (Fin : Ledger → Value → Prop) (s₁ : Shared) (fl : Flow) (s' : Shared) : Prop
  | mk (h' : Heap) (tk' : Nat) (m' : Str → Option Value) (nx : Ledger) (q1 : s' = { s₁ with heap := h', toks := tk' }) (q2 : Fr g L h' m') (q3 : News g L h' nx) (q4 : Fin nx (match fl with | .ret v => v | _ => .none)) : BEndF g L Fin s₁ fl s'
section
variable {prog : Program} {w : World} {K : Frag} {p : Program} {loose : List Str} {mean : ExcName → Option Value} {mg mb : Str → Option Value}
theorem conF_defC {dn : Nat} {f : Addr} {pos : List Value} {kw : List (Str × Value)} {Ex : Heap → Prop} (hEx : ∀ h h' : Heap, Ex h → (∀ b o, h.get? b = some o → h'.get? b = some o) → Ex h') {news : Ledger} {Fin : Ledger → Value → Prop}
    {name qual : Str} {params : Arguments} {body : List Stmt} {scope : Scope} {dV kV doc pm cdv ct oc : Value} {an od : Option Addr} {osl : Array (Option Value)} {binds : List (Str × Value)}
    (ho : K.lookup f = some ⟨oc, od, .func (fnOf name qual params body scope dV kV doc pm an cdv ct), osl⟩) (hcd : codeIn K cdv qual = true)
    (hbind : ∀ s : Shared, K.In s.heap → BindsTo s (fnOf name qual params body scope dV kV doc pm an cdv ct) ⟨pos, kw⟩ binds) (hkind : (binds.all fun y => scope.names.lookup y.1 == some .local || scope.names.lookup y.1 == some .cell) = true)
    (hnd : ((cellsFrom 0 scope.names []).map (·.1)).Nodup)
    (h : ∀ (dp un : Nat) (gd : Option (List Code)) (outer : List Env) (A₀ : Around) (base g : Heap) (L : Addr) (cells : Ledger) (s : Shared),
      Below A₀ base outer g → Fr g L s.heap (bindL (envOfC qual scope L f cdv).kindOf binds fun _ => none) → K.In g → News g L s.heap (cells ++ news) → Ex g →
      CellsAre (bindC (envOfC qual scope L f cdv).kindOf binds fun _ => none) (cellsFrom (L + 1) scope.names []) cells → (∀ p ∈ news, p.1 < L) → Top p loose mean mg mb g → dp + dn < recursionLimit + 1 → un + 8 * dn < cLine + 3 →
      wpAny (model prog w) (ktrTop dp un gd qual scope L f cdv (cellsFrom (L + 1) scope.names []) outer) (execs body (envOfC qual scope L f cdv)) (BEndF g L Fin s) (fun _ _ => False) s)
    (hco : scope.isCoroutine = false := by rfl) (hgen : scope.isGenerator = false := by rfl) (hk : scope.kind = .function := by rfl) : ConF prog w K p loose mean mg mb dn f pos kw Ex news Fin := by
  intro dp un gd cn cs a ccd cl outer A₀ base h₀ L m s Q E B F X N T ex hkc hd hu hret
  refine wpAny_call ?_
  refine callX_cells B F N T.nolimit rfl rfl hkc ((X.keeps F.keep) _ _ ho) rfl (codeRec_of (X.keeps F.keep) hcd) (Nat.lt_of_le_of_lt (Nat.le_add_right dp dn) hd) (hbind s (X.keeps F.keep)) (kindsX hkind) hnd (fun g L' h₁ tk cells FG F' N' Y' B' st l1 => ?_) hco hgen hk
  refine wpAny_mono (h (dp + 1) (un + 3) gd (envX cn cs L a ccd cl :: outer) _ base g L' cells { s with heap := h₁, toks := tk } B' F' (X.keeps st) N' (hEx _ _ ex st) Y' l1 (T.keeps st) (by omega) (by omega)) (fun fl s' hb => ?_) fun _ _ e => e.elim
  obtain ⟨h', tk', m', nx, rfl, F₂, N₂, o₂⟩ := hb
  exact leaveK_ F₂ N₂ fun kF kN => hret _ _ _ _ kF kN o₂
end
end Mine
end
section
open PySem PySem.W PyProof.Rows
set_option Elab.async false
namespace Mine
set_option maxRecDepth 100000
section
variable {prog : Program} {w : World} {A : Around} {E : Value → Shared → Prop} {s : Shared} {env : Env} {h₀ : Heap} {target : Expr} {body : List Stmt} {Q : Flow → Shared → Prop}
/-- a turn's end -/
inductive TEnd (h₀ : Heap) (L : Addr) (wr : List Addr) (its : Ledger) (J : (Str → Option Value) → Ledger → Prop) (s₁ s₂ : Shared) : Prop
  | mk (h' : Heap) (tk : Nat) (m' : Str → Option Value) (nx : Ledger) (q1 : s₂ = { s₁ with heap := h', toks := tk }) (q2 : Fr h₀ L h' m') (q3 : News h₀ L h' (its ++ nx)) (q4 : (∀ p ∈ nx, p.1 ∉ wr)) (q5 : J m' nx) : TEnd h₀ L wr its J s₁ s₂
def TPost (h₀ : Heap) (L : Addr) (wr : List Addr) (its : Ledger) (J : (Str → Option Value) → Ledger → Prop) (s₁ : Shared) (Q : Flow → Shared → Prop) (f : Flow) (s₂ : Shared) : Prop :=
  match f with
  | .ret v => Q (.ret v) s₂
  | .brk => Q .next s₂
  | _ => TEnd h₀ L wr its J s₁ s₂
theorem turns_gen {I : Addr} {fp wr : List Addr} {n : Nat} {P Md : Nat → Value → Heap → Prop} {St : Nat → Heap → Prop} {keep news : Ledger} {m₀ : Str → Option Value} {hp : Heap} {tk0 : Nat}
    (W : KTurns prog w A target I fp wr n P Md St) (hwr : ∀ b ∈ wr, h₀.get? b = none) (hfp : ∀ b ∈ fp, b ∈ wr ∨ ∃ o, (b, o) ∈ keep) (hL : env.locals ∉ fp) (hnw : ∀ p ∈ news, p.1 ∉ wr) (hst : St 0 hp)
    (F : Fr h₀ env.locals hp m₀) (N : News h₀ env.locals hp news) (hIo : ∀ i h, St i h → ∀ b ∈ wr, ∃ o, h.get? b = some o)
    (J : Nat → (Str → Option Value) → Ledger → Prop) (h0 : J 0 m₀ news) (hJk : ∀ i m nx, J i m nx → ∀ p ∈ keep, p ∈ nx)
    (step : ∀ i v m nx h tk its, i < n → P i v h → J i m nx → (∀ p ∈ nx, p.1 ∉ wr) → (∀ p ∈ its, p.1 ∈ wr) → (∀ b ∈ wr, ∃ o, (b, o) ∈ its) → Fr h₀ env.locals h m → News h₀ env.locals h (its ++ nx) →
      wpAny (model prog w) A (assign target env v) (fun _ s₂ => wpAny (model prog w) A (execs body env) (TPost h₀ env.locals wr its (J (i + 1)) { s with heap := h, toks := tk } Q) E s₂) E { s with heap := h, toks := tk })
    (done : ∀ h tk m nx, J n m nx → (∀ p ∈ nx, p.1 ∉ wr) → Fr h₀ env.locals h m → News h₀ env.locals h nx → Q .next { s with heap := h, toks := tk }) :
    TurnsAt prog w A h₀ env target body Q E (.ref I) { s with heap := hp, toks := tk0 } := by
  refine ⟨I, fp, wr, n, P, Md, St, m₀, news, J, rfl, W, hL, hwr, hnw, hst, F, N, h0, ?_, ?_⟩
  · intro i v m₁ news₁ h₁ tk₁ own hin hPi hJ hoff hown hget hall hst₁ F₁ N₁
    have hits : ∀ p ∈ own.filter (fun p => decide (p.1 ∈ wr)), p.1 ∈ wr := fun p hp => by simpa using (List.mem_filter.mp hp).2
    have hcov : ∀ b ∈ wr, ∃ o, (b, o) ∈ own.filter (fun p => decide (p.1 ∈ wr)) := fun b hb => by
      obtain ⟨o, ho⟩ := hIo _ _ hst₁ b hb
      exact ⟨o, List.mem_filter.mpr ⟨hall b (W.sub b hb) (hwr b hb) o ho, by simpa using hb⟩⟩
    have N₂ : News h₀ env.locals h₁ (own.filter (fun p => decide (p.1 ∈ wr)) ++ news₁) := fun p hp => by
      rcases List.mem_append.mp hp with hp | hp
      · exact N₁ _ (List.mem_append_left _ (List.mem_filter.mp hp).1)
      · exact N₁ _ (List.mem_append_right _ hp)
    have fin : ∀ s₃, TEnd h₀ env.locals wr (own.filter (fun p => decide (p.1 ∈ wr))) (J (i + 1)) { s with heap := h₁, toks := tk₁ } s₃ → LoopStepU h₀ env.locals wr own (J (i + 1)) { s with heap := h₁, toks := tk₁ } .next s₃ := by
      rintro s₃ ⟨h', tk, m', nx, e, F', N', ho, hj⟩
      refine ⟨rfl, h', tk, m', nx, e, F', ?_, ho, hj⟩
      rintro ⟨pa, po⟩ hp
      rcases List.mem_append.mp hp with hp | hp
      · by_cases hw : pa ∈ wr
        · exact N' _ (List.mem_append_left _ (List.mem_filter.mpr ⟨hp, by simpa using hw⟩))
        · rcases hfp pa (hown _ hp) with h3 | ⟨o, h3⟩
          · exact absurd h3 hw
          · have h2 : h₁.get? pa = some po := hget _ hp
            have h4 : h₁.get? pa = some o := (N₁ _ (List.mem_append_right _ (hJk _ _ _ hJ _ h3))).1
            have h6 : o = po := Option.some.inj (h4.symm.trans h2)
            subst h6
            exact N' _ (List.mem_append_right _ (hJk _ _ _ hj _ h3))
      · exact N' _ (List.mem_append_right _ hp)
    refine wpAny_mono (step i v m₁ news₁ h₁ tk₁ _ hin hPi hJ hoff hits hcov F₁ N₂) (fun _ s₂ h₂ => wpAny_mono h₂ (fun f s₃ p => ?_) fun _ _ e => e) fun _ _ e => e
    cases f with
    | ret v => exact .ret p
    | brk => exact .brk p
    | next => exact .next (fin _ p)
    | cont => exact .cont (fin _ p)
  · intro h' tk m' news' F' N' ha hJ
    exact done h' tk m' news' hJ ha F' N'
theorem turns_one {I : Addr} {fp : List Addr} {n : Nat} {P Md : Nat → Value → Heap → Prop} {St : Nat → Heap → Prop} {keep news : Ledger} {m₀ : Str → Option Value} {hp : Heap} {tk0 : Nat}
    (W : KTurns prog w A target I fp [I] n P Md St) (hfp : ∀ b ∈ fp, b = I ∨ ∃ o, (b, o) ∈ keep) (hnew : h₀.get? I = none) (hLI : env.locals ≠ I) (hLk : ∀ p ∈ keep, p.1 ≠ env.locals) (hnw : ∀ p ∈ news, p.1 < I) (hst : St 0 hp)
    (F : Fr h₀ env.locals hp m₀) (N : News h₀ env.locals hp news) (hIo : ∀ i h, St i h → ∃ o, h.get? I = some o)
    (J : Nat → (Str → Option Value) → Ledger → Prop) (h0 : J 0 m₀ news) (hJk : ∀ i m nx, J i m nx → ∀ p ∈ keep, p ∈ nx)
    (step : ∀ i v m nx h tk oI, i < n → P i v h → J i m nx → (∀ p ∈ nx, p.1 ≠ I) → (∀ p ∈ news, p.1 < I) → Fr h₀ env.locals h m → News h₀ env.locals h ((I, oI) :: nx) →
      wpAny (model prog w) A (assign target env v) (fun _ s₂ => wpAny (model prog w) A (execs body env) (TPost h₀ env.locals [I] [(I, oI)] (J (i + 1)) { s with heap := h, toks := tk } Q) E s₂) E { s with heap := h, toks := tk })
    (done : ∀ h tk m nx, J n m nx → Fr h₀ env.locals h m → News h₀ env.locals h nx → Q .next { s with heap := h, toks := tk }) :
    TurnsAt prog w A h₀ env target body Q E (.ref I) { s with heap := hp, toks := tk0 } := by
  refine turns_gen (tk0 := tk0) (keep := keep) W (fun b hb => ?_) (fun b hb => ?_) (fun hI => ?_) (fun p hp hI => ?_) hst F N (fun i h st b hb => ?_) J h0 hJk ?_ (fun h tk m nx hJ _ F₁ N₁ => done h tk m nx hJ F₁ N₁)
  · rw [List.mem_singleton.mp hb]; exact hnew
  · rcases hfp b hb with e | e
    · exact .inl (by simp [e])
    · exact .inr e
  · rcases hfp _ hI with e | ⟨o, e⟩
    · exact hLI e
    · exact hLk _ e rfl
  · exact absurd (hnw p hp) ((List.mem_singleton.mp hI) ▸ Nat.lt_irrefl _)
  · rw [List.mem_singleton.mp hb]; exact hIo _ _ st
  · intro i v m nx h tk its hi hP hJ hoff hits hcov F₁ N₁
    obtain ⟨oI, hoI⟩ := hcov I (.head _)
    have N₂ : News h₀ env.locals h ((I, oI) :: nx) := fun p hp => by
      rcases List.mem_cons.mp hp with rfl | hp
      · exact N₁ _ (List.mem_append_left _ hoI)
      · exact N₁ _ (List.mem_append_right _ hp)
    refine wpAny_mono (step i v m nx h tk oI hi hP hJ (fun p hp e => hoff p hp (by rw [e]; exact .head _)) hnw F₁ N₂) (fun _ s₂ h₂ => wpAny_mono h₂ (fun f s₃ p => ?_) fun _ _ e => e) fun _ _ e => e
    have conv : ∀ s₃, TEnd h₀ env.locals [I] [(I, oI)] (J (i + 1)) { s with heap := h, toks := tk } s₃ → TEnd h₀ env.locals [I] its (J (i + 1)) { s with heap := h, toks := tk } s₃ := by
      rintro s₃ ⟨h', tk', m', nx', e, F', N', ho, hj⟩
      refine ⟨h', tk', m', nx', e, F', fun p hp => ?_, ho, hj⟩
      rcases List.mem_append.mp hp with hp | hp
      · have e1 : p.1 = I := List.mem_singleton.mp (hits p hp)
        have g1 := (N₁ p (List.mem_append_left _ hp)).1
        have g2 := (N₁ _ (List.mem_append_left _ hoI)).1
        have e2 : p = (I, oI) := by
          obtain ⟨pa, po⟩ := p
          dsimp only at e1 g1 g2
          subst e1
          rw [g1] at g2
          rw [Option.some.inj g2]
        rw [e2]; exact N' _ (.head _)
      · exact N' _ (List.mem_append_right _ hp)
    cases f with
    | ret v => exact p
    | brk => exact p
    | next => exact conv _ p
    | cont => exact conv _ p
theorem turns_list {ax : Addr} {vs : List Value} {n : Nat} {m₀ : Str → Option Value} {news : Ledger}
    (hh : A.handled = none) (F : Fr h₀ env.locals s.heap m₀) (N : News h₀ env.locals s.heap news) (hm : (ax, listOf vs.toArray n) ∈ news)
    (J : Nat → (Str → Option Value) → Ledger → Prop) (h0 : J 0 m₀ news) (hJk : ∀ i m nx, J i m nx → (ax, listOf vs.toArray n) ∈ nx)
    (step : ∀ i v m nx h tk I oI, vs[i]? = some v → J i m nx → (∀ p ∈ nx, p.1 ≠ I) → (∀ p ∈ news, p.1 < I) → Fr h₀ env.locals h m → News h₀ env.locals h ((I, oI) :: nx) →
      wpAny (model prog w) A (assign target env v) (fun _ s₂ => wpAny (model prog w) A (execs body env) (TPost h₀ env.locals [I] [(I, oI)] (J (i + 1)) { s with heap := h, toks := tk } Q) E s₂) E { s with heap := h, toks := tk })
    (done : ∀ h tk m nx, J vs.length m nx → Fr h₀ env.locals h m → News h₀ env.locals h nx → Q .next { s with heap := h, toks := tk }) :
    wpAny (model prog w) A (pyIter (.ref ax)) (fun it s₂ => TurnsAt prog w A h₀ env target body Q E it s₂) E s := by
  have hax := N _ hm
  have hl : s.heap.IsList ax vs.toArray := ⟨_, hax.1, rfl, n, rfl⟩
  have hlt : ax < s.heap.objs.size := Heap.lt_size hax.1
  have hne : ax ≠ s.heap.objs.size := Nat.ne_of_lt hlt
  refine wpAny_pyIter_list hl ?_
  have W := KTurns.ofWalks (target := target) (Walks.list (prog := prog) (w := w) hh s.heap.objs.size ax hne vs.toArray) fun i v s Q E st q => letGo_listiter st.1 q
  have hsz : vs.toArray.size = vs.length := by simp
  rw [hsz] at W
  refine turns_one (tk0 := s.toks) (keep := [(ax, listOf vs.toArray n)]) W (fun b hb => ?_) (next_is_new F) (Nat.ne_of_lt F.ns.lt) (fun p hp => ?_) (fun p hp => Heap.lt_size (N p hp).1) ?_ (F.push _) (fun p hp => ⟨Heap.get?_push_of_some _ (N p hp).1, (N p hp).2⟩) (fun i h st => ?_) J h0 (fun i m nx hj p hp => ?_) ?_ done
  · have hb' : b = s.heap.objs.size ∨ b = ax := by simpa using hb
    rcases hb' with e | e
    · exact .inl e
    · exact .inr ⟨_, by rw [e]; exact .head _⟩
  · rw [List.mem_singleton.mp hp]; exact hax.2.1
  · exact ⟨⟨_, Heap.get?_push_size _ rfl, rfl, rfl⟩, hl.at fun o e => Heap.get?_push_of_some _ e⟩
  · obtain ⟨o, e, _⟩ := st.1; exact ⟨o, e⟩
  · rw [List.mem_singleton.mp hp]; exact hJk _ _ _ hj
  · intro i v m nx h tk oI _ hP hJ hoff hlt' F₁ N₁
    have hv : vs[i]? = some v := by
      have hP' : vs.toArray[i]? = some v := hP
      simpa using hP'
    exact step i v m nx h tk _ oI hv hJ hoff hlt' F₁ N₁
theorem turns_range {r : Addr} {a b : Int} {t u v : Tok} {n : Nat} {m₀ : Str → Option Value} {news : Ledger}
    (hh : A.handled = none) (F : Fr h₀ env.locals s.heap m₀) (N : News h₀ env.locals s.heap news) (hr : IsRange s.heap r a b 1 t u v) (hsm : Builtin.Range.small a b 1 = true) (hn : Builtin.Range.rangeSize a b 1 = ((n : Nat) : Int))
    (hgo : ∀ I i a' b' (s : Shared) (Q : Unit → Shared → Prop) (E : Value → Shared → Prop) v, IsRangeIter s.heap I a' b' 1 → Q () s → wpAny (model prog w) A (letOwnedTupleGo target (.ref I) (.int i v)) Q E s)
    (J : Nat → (Str → Option Value) → Ledger → Prop) (h0 : J 0 m₀ news)
    (step : ∀ (i : Nat) t m nx h tk I oI, i < n → J i m nx → (∀ p ∈ nx, p.1 ≠ I) → (∀ p ∈ news, p.1 < I) → Fr h₀ env.locals h m → News h₀ env.locals h ((I, oI) :: nx) →
      wpAny (model prog w) A (assign target env (.int (a + (i : Int)) t)) (fun _ s₂ => wpAny (model prog w) A (execs body env) (TPost h₀ env.locals [I] [(I, oI)] (J (i + 1)) { s with heap := h, toks := tk } Q) E s₂) E { s with heap := h, toks := tk })
    (done : ∀ h tk m nx, J n m nx → Fr h₀ env.locals h m → News h₀ env.locals h nx → Q .next { s with heap := h, toks := tk }) :
    wpAny (model prog w) A (pyIter (.ref r)) (fun it s₂ => TurnsAt prog w A h₀ env target body Q E it s₂) E s := by
  refine wpAny_pyIter_range hr hsm ?_
  have W := PyProof.Rows.LCg.range_walks (prog := prog) (w := w) (I := s.heap.objs.size) hh a n
  have W' : KTurns prog w A target s.heap.objs.size [s.heap.objs.size] [s.heap.objs.size] n (fun i v _ => ∃ t, v = .int (a + (i : Int)) t) (fun i v h => (∃ t, v = .int (a + (i : Int)) t) ∧ IsRangeIter h s.heap.objs.size (a + ((i + 1 : Nat) : Int) * 1) ((n : Int) - ((i + 1 : Nat) : Int)) 1) (fun i h => IsRangeIter h s.heap.objs.size (a + (i : Nat) * 1) ((n : Int) - (i : Nat)) 1) :=
    { sub := W.sub, frame := W.frame, done := W.done,
      item := fun i s Q E hi st hQ => W.item i s Q E hi st fun v h' tk hP st' hk => hQ v h' tk ⟨hP, st'⟩ hk
      go := fun i v s Q E hm hQ => by
        obtain ⟨⟨t, rfl⟩, hm⟩ := hm
        exact hgo _ _ _ _ s Q E t hm (hQ s.heap ⟨t, rfl⟩ hm fun _ _ _ e => e) }
  refine turns_one (tk0 := s.toks) (keep := []) W' (fun b hb => .inl (List.mem_singleton.mp hb)) (next_is_new F) (Nat.ne_of_lt F.ns.lt) (fun p hp => nomatch hp) (fun p hp => Heap.lt_size (N p hp).1) ?_ (F.push _) (fun p hp => ⟨Heap.get?_push_of_some _ (N p hp).1, (N p hp).2⟩) (fun i h st => ⟨_, st⟩) J h0 (fun i m nx hj p hp => nomatch hp) ?_ done
  · show IsRangeIter _ _ _ _ _
    rw [hn]; simpa using Heap.get?_push_size _ rfl
  · rintro i v m nx h tk oI hi ⟨t, rfl⟩ hJ hoff hlt' F₁ N₁
    exact step i t m nx h tk _ oI hi hJ hoff hlt' F₁ N₁
theorem turns_items {K : Type} [DecidableEq K] {knd : KeyKind prog w K} {elts : List Expr} {kk : Nat} {pos : Pos} {d vw : Addr} {od : Obj} {kvs : List (K × Value)} {m₀ : Str → Option Value} {news : Ledger}
    (hh : A.handled = none) (F : Fr h₀ env.locals s.heap m₀) (N : News h₀ env.locals s.heap news) (hvw : s.heap.IsItemsView vw d) (hm : (d, od) ∈ news) (hd : od.IsDictOf knd kvs)
    (J : Nat → (Str → Option Value) → Ledger → Prop) (h0 : J 0 m₀ news) (hJk : ∀ i m nx, J i m nx → (d, od) ∈ nx)
    (step : ∀ i k v key T m nx h tk I oI, kvs[i]? = some (k, v) → knd.is k key = true → h.IsTuple T #[key, v] → J i m nx → (∀ p ∈ nx, p.1 ≠ I) → (∀ p ∈ news, p.1 < I) → Fr h₀ env.locals h m → News h₀ env.locals h ((I, oI) :: nx) →
      wpAny (model prog w) A (assign (.Tuple elts kk pos) env (.ref T)) (fun _ s₂ => wpAny (model prog w) A (execs body env) (TPost h₀ env.locals [I] [(I, oI)] (J (i + 1)) { s with heap := h, toks := tk } Q) E s₂) E { s with heap := h, toks := tk })
    (done : ∀ h tk m nx, J kvs.length m nx → Fr h₀ env.locals h m → News h₀ env.locals h nx → Q .next { s with heap := h, toks := tk }) :
    wpAny (model prog w) A (pyIter (.ref vw)) (fun it s₂ => TurnsAt prog w A h₀ env (.Tuple elts kk pos) body Q E it s₂) E s := by
  have hax := N _ hm
  have hdo : s.heap.DictOf knd d kvs := Heap.dictOf_iff.mpr ⟨od, hax.1, hd⟩
  obtain ⟨ep, hat⟩ := hdo.dictAt
  have hne : d ≠ s.heap.objs.size := Nat.ne_of_lt hat.lt_size
  refine wpAny_pyIter_items hvw hat ?_
  refine turns_one (tk0 := s.toks) (keep := [(d, od)]) (kti_itemsTurns (knd := knd) hh s.heap.objs.size d hne kvs ep) (fun b hb => ?_) (next_is_new F) (Nat.ne_of_lt F.ns.lt) (fun p hp => ?_) (fun p hp => Heap.lt_size (N p hp).1) ?_ (F.push _) (fun p hp => ⟨Heap.get?_push_of_some _ (N p hp).1, (N p hp).2⟩) (fun i h st => ?_) J h0 (fun i m nx hj p hp => ?_) ?_ done
  · have hb' : b = s.heap.objs.size ∨ b = d := by simpa using hb
    rcases hb' with e | e
    · exact .inl e
    · exact .inr ⟨_, by rw [e]; exact .head _⟩
  · rw [List.mem_singleton.mp hp]; exact hax.2.1
  · exact ⟨⟨_, _, Heap.get?_push_size _ rfl⟩, hat.push _⟩
  · obtain ⟨⟨ok, ov, e⟩, _⟩ := st; exact ⟨_, e⟩
  · rw [List.mem_singleton.mp hp]; exact hJk _ _ _ hj
  · rintro i v m nx h tk oI _ ⟨T, key, k, x, rfl, hx, hk, hT⟩ hJ hoff hlt' F₁ N₁
    exact step i k x key T m nx h tk _ oI hx hk hT hJ hoff hlt' F₁ N₁
end
end Mine
namespace Mine
/-- names of S by u, all others by m₀ -/
def Over (S : List Str) (u m₀ : Str → Option Value) : Str → Option Value := fun z => if S.contains z then u z else m₀ z
theorem over_self {S : List Str} {m₀ : Str → Option Value} : m₀ = Over S m₀ m₀ := by funext z; unfold Over; split <;> rfl
theorem over_of {S : List Str} {m' m₀ : Str → Option Value} (h : ∀ z, S.contains z = false → m' z = m₀ z) : m' = Over S m' m₀ := by
  funext z
  unfold Over
  split
  · rfl
  · rename_i hc; exact h z (by simpa using hc)
theorem over_skip {S : List Str} {u m₀ : Str → Option Value} {x : Str} {v : Option Value} {z : Str} (hx : S.contains x = true) (hz : S.contains z = false) : (if z = x then v else u z) = u z := by
  rw [if_neg]; rintro rfl; rw [hx] at hz; cases hz
theorem over_out {S : List Str} {u m₀ : Str → Option Value} {z : Str} (hz : S.contains z = false) : Over S u m₀ z = m₀ z := by
  unfold Over; rw [hz]; rfl
end Mine
end
section
open PySem PySem.W PyProof.Rows
set_option Elab.async false
namespace Mine
set_option maxRecDepth 100000
abbrev PP : Program := PySem.Challenge.pw_pg0156_01
abbrev tupO (vs : List Value) (n : Nat) : Obj := { cls := .type "tuple", data := .seq vs.toArray n }
/-- a sum: three columns, the number of entries, the letters of its table -/
structure Tot where
  x : Int
  y : Int
  z : Int
  n : Int
  ls : List Str
def Tot.at (t : Tot) (c : Int) : Int := if c = 0 then t.x else if c = 1 then t.y else t.z
def cmpK : List (Int × Int) → Tot → Tot → Int
  | [], _, _ => 0
  | (c, d) :: r, a, b => if a.at c < b.at c then -d else if a.at c > b.at c then d else cmpK r a b
/-- a dict of letters, each with a one -/
inductive LettersAt (w : World) (news : Ledger) (d : Addr) (ls : List Str) : Prop
  | mk (od : Obj) (kvs : List (Str × Value)) (q1 : (d, od) ∈ news) (q2 : (d == sysModules) = false) (q3 : od.IsDictOf (strKind PP w) kvs) (q4 : kvs.map (·.1) = ls) (q5 : ∀ kv ∈ kvs, ∃ t, kv.2 = .int 1 t) : LettersAt w news d ls
theorem LettersAt.mono {w : World} {a b : Ledger} {d : Addr} {ls : List Str} (h : LettersAt w a d ls) (k : ∀ p ∈ a, p ∈ b) : LettersAt w b d ls := by
  obtain ⟨od, kvs, h1, h2, h3, h4, h5⟩ := h
  exact ⟨od, kvs, k _ h1, h2, h3, h4, h5⟩
theorem LettersAt.nodup {w : World} {a : Ledger} {d : Addr} {ls : List Str} (h : LettersAt w a d ls) : ls.Nodup := by
  obtain ⟨od, kvs, h1, h2, ⟨_, _, _, _, _, _, h3⟩, rfl, _⟩ := h
  exact h3
inductive TotIn (w : World) (news : Ledger) (v : Value) (t : Tot) : Prop
  | mk (a d : Addr) (t0 t1 t2 t3 : Tok) (nn : Nat) (q1 : v = .ref a) (q2 : (a, tupO [.int t.x t0, .int t.y t1, .int t.z t2, .int t.n t3, .ref d] nn) ∈ news) (q3 : LettersAt w news d t.ls) : TotIn w news v t
theorem TotIn.mono {w : World} {a b : Ledger} {v : Value} {t : Tot} (h : TotIn w a v t) (k : ∀ p ∈ a, p ∈ b) : TotIn w b v t := by
  obtain ⟨a, d, t0, t1, t2, t3, nn, e, h1, h2⟩ := h
  exact ⟨a, d, t0, t1, t2, t3, nn, e, k _ h1, h2.mono k⟩
/-- item by item -/
inductive All2 {α β : Type} (F : α → β → Prop) : List α → List β → Prop
  | nil : All2 F [] []
  | cons {a b l m} : F a b → All2 F l m → All2 F (a :: l) (b :: m)
theorem All2.length {α β : Type} {F : α → β → Prop} {l : List α} {m : List β} (h : All2 F l m) : l.length = m.length := by
  induction h with
  | nil => rfl
  | cons _ _ ih => simp [ih]
theorem All2.imp {α β : Type} {F G : α → β → Prop} (k : ∀ a b, F a b → G a b) {l : List α} {m : List β} (h : All2 F l m) : All2 G l m := by
  induction h with
  | nil => exact .nil
  | cons h _ ih => exact .cons (k _ _ h) ih
theorem All2.append {α β : Type} {F : α → β → Prop} {l l' : List α} {m m' : List β} (h : All2 F l m) (k : All2 F l' m') : All2 F (l ++ l') (m ++ m') := by
  induction h with
  | nil => exact k
  | cons h _ ih => exact .cons h ih
theorem All2.get {α β : Type} {F : α → β → Prop} {l : List α} {m : List β} (h : All2 F l m) {i : Nat} {a : α} (ha : l[i]? = some a) : ∃ b, m[i]? = some b ∧ F a b := by
  induction h generalizing i with
  | nil => simp at ha
  | @cons x y l m h _ ih =>
    cases i with
    | zero => simp at ha; subst ha; exact ⟨y, rfl, h⟩
    | succ i => simp at ha; simpa using ih ha
theorem All2.get' {α β : Type} {F : α → β → Prop} {l : List α} {m : List β} (h : All2 F l m) {i : Nat} {b : β} (hb : m[i]? = some b) : ∃ a, l[i]? = some a ∧ F a b := by
  induction h generalizing i with
  | nil => simp at hb
  | @cons x y l m h _ ih =>
    cases i with
    | zero => simp at hb; subst hb; exact ⟨x, rfl, h⟩
    | succ i => simp at hb; simpa using ih hb
theorem All2.take {α β : Type} {F : α → β → Prop} {l : List α} {m : List β} (h : All2 F l m) (i : Nat) : All2 F (l.take i) (m.take i) := by
  induction h generalizing i with
  | nil => simp; exact .nil
  | cons h _ ih =>
    cases i with
    | zero => simp; exact .nil
    | succ i => simp only [List.take_succ_cons]; exact .cons h (ih i)
theorem All2.drop {α β : Type} {F : α → β → Prop} {l : List α} {m : List β} (h : All2 F l m) (i : Nat) : All2 F (l.drop i) (m.drop i) := by
  induction h generalizing i with
  | nil => simp; exact .nil
  | cons h r ih =>
    cases i with
    | zero => simp; exact .cons h r
    | succ i => simp only [List.drop_succ_cons]; exact ih i
theorem All2.reverse {α β : Type} {F : α → β → Prop} {l : List α} {m : List β} (h : All2 F l m) : All2 F l.reverse m.reverse := by
  induction h with
  | nil => exact .nil
  | cons h _ ih => simp only [List.reverse_cons]; exact ih.append (.cons h .nil)
/-- a pair of ints -/
inductive PairIn (news : Ledger) (v : Value) (p : Int × Int) : Prop
  | mk (a : Addr) (t0 t1 : Tok) (n : Nat) (q1 : v = .ref a) (q2 : (a, tupO [.int p.1 t0, .int p.2 t1] n) ∈ news) : PairIn news v p
theorem PairIn.mono {a b : Ledger} {v : Value} {p : Int × Int} (h : PairIn a v p) (k : ∀ p ∈ a, p ∈ b) : PairIn b v p := by
  obtain ⟨a, t0, t1, n, e, h1⟩ := h
  exact ⟨a, t0, t1, n, e, k _ h1⟩
def KeysOk (ks : List (Int × Int)) : Prop := ∀ p ∈ ks, p.1 = 0 ∨ p.1 = 1 ∨ p.1 = 2
inductive KeysIn (news : Ledger) (lk : Addr) (ks : List (Int × Int)) : Prop
  | mk (vs : List Value) (n : Nat) (q1 : (lk, listOf vs.toArray n) ∈ news) (q2 : All2 (PairIn news) vs ks) : KeysIn news lk ks
theorem KeysIn.mono {a b : Ledger} {lk : Addr} {ks : List (Int × Int)} (h : KeysIn a lk ks) (k : ∀ p ∈ a, p ∈ b) : KeysIn b lk ks := by
  obtain ⟨vs, n, h1, h2⟩ := h
  exact ⟨vs, n, k _ h1, h2.imp fun _ _ h => h.mono k⟩
inductive JudgeIn (news : Ledger) (v : Value) (ks : List (Int × Int)) : Prop
  | mk (j dj lk : Addr) (hs : Int) (tk : Tok) (q1 : v = .ref j) (q2 : (j, instObj 47 dj) ∈ news) (q3 : (dj, dictOf [⟨hs, .str (Str.ofString "comp_select_list") tk, .ref lk⟩] 1) ∈ news) (q4 : KeysIn news lk ks) : JudgeIn news v ks
theorem JudgeIn.mono {a b : Ledger} {v : Value} {ks : List (Int × Int)} (h : JudgeIn a v ks) (k : ∀ p ∈ a, p ∈ b) : JudgeIn b v ks := by
  obtain ⟨j, dj, lk, hs, tk, e, h1, h2, h3⟩ := h
  exact ⟨j, dj, lk, hs, tk, e, k _ h1, k _ h2, h3.mono k⟩
abbrev IntIn (v : Value) (i : Int) : Prop := ∃ t, v = .int i t
end Mine
end
section
open PySem PySem.W PyProof.Rows
set_option Elab.async false
namespace Mine
set_option maxRecDepth 100000
section
variable {prog : Program} {w : World} {A : Around} {E : Value → Shared → Prop} {s : Shared} {h₀ : Heap} {L : Addr} {m : Str → Option Value} {nx : Ledger}
theorem item_at {value slice : PySem.Expr} {l : Addr} {vs : List Value} {n : Nat} {k : Int} {u : Tok} {x : Value} {Q : Value → Shared → Prop} (N : News h₀ L s.heap nx) (hm : (l, listOf vs.toArray n) ∈ nx)
    (h0 : 0 ≤ k) (hfit : k < 2 ^ 63) (hx : vs[k.toNat]? = some x) (h : Q x s)
    (hs : subscripted slice false (.ref l) (.int k u) = operate [.ref l, .int k u] (getItem (.ref l) (.int k u)) := by with_unfolding_all rfl) :
    wpAny (model prog w) A (subscriptTail value slice (.ref l) (.int k u)) Q E s :=
  let hl : s.heap.IsList l vs.toArray := ⟨_, (N _ hm).1, rfl, n, rfl⟩
  tail_any hl.typeIs slot_list_getitem.lookup (wpAny_getItem_list hl h0 hfit (by simpa using hx) h) hs
theorem item_neg {value slice : PySem.Expr} {l : Addr} {vs : List Value} {n : Nat} {k : Int} {u : Tok} {x : Value} {Q : Value → Shared → Prop} (N : News h₀ L s.heap nx) (hm : (l, listOf vs.toArray n) ∈ nx)
    (h0 : k < 0) (h1 : -(vs.length : Int) ≤ k) (hfit : -(2 ^ 63) ≤ k) (hx : vs[(k + vs.length).toNat]? = some x) (h : Q x s)
    (hs : subscripted slice false (.ref l) (.int k u) = operate [.ref l, .int k u] (getItem (.ref l) (.int k u)) := by with_unfolding_all rfl) :
    wpAny (model prog w) A (subscriptTail value slice (.ref l) (.int k u)) Q E s :=
  let hl : s.heap.IsList l vs.toArray := ⟨_, (N _ hm).1, rfl, n, rfl⟩
  tail_any hl.typeIs slot_list_getitem.lookup (wpAny_getItem_list_neg hl h0 (by simpa using h1) hfit (by simpa using hx) h) hs
theorem len_at {l : Addr} {vs : List Value} {n : Nat} {Q : Value → Shared → Prop} (N : News h₀ L s.heap nx) (hm : (l, listOf vs.toArray n) ∈ nx) (hz : vs.length ≤ 100000)
    (h : Q (.int vs.length (s.toks + 1)) { s with toks := s.toks + 1 + 1 }) : wpAny (model prog w) A (call (.builtin "len") [.ref l]) Q E s := by
  refine len_list (items := vs.toArray) ⟨_, (N _ hm).1, rfl, n, rfl⟩ (by simp; omega) (by simpa using h)
end
end Mine
end
section
open PySem PySem.W PyProof.Rows
set_option Elab.async false
namespace Mine
set_option maxRecDepth 100000
theorem fillCmp : (PySem.Challenge.rw_pg0156_01, hd.heap_39) = (PySem.Challenge.rw_pg0156_01, hd.heap_39) := by k_fill; rfl
theorem cmpK_lt {ks : List (Int × Int)} {i : Nat} {c d : Int} {a b : Tot} (hks : ks[i]? = some (c, d)) (hJ : cmpK (ks.drop i) a b = cmpK ks a b) (h : a.at c < b.at c) : cmpK ks a b = -d := by
  rw [← hJ, drop_at hks, cmpK, if_pos h]
theorem cmpK_gt {ks : List (Int × Int)} {i : Nat} {c d : Int} {a b : Tot} (hks : ks[i]? = some (c, d)) (hJ : cmpK (ks.drop i) a b = cmpK ks a b) (h : ¬ a.at c < b.at c) (h' : b.at c < a.at c) : cmpK ks a b = d := by
  rw [← hJ, drop_at hks, cmpK, if_neg h, if_pos h']
theorem cmpK_on {ks : List (Int × Int)} {i : Nat} {c d : Int} {a b : Tot} (hks : ks[i]? = some (c, d)) (hJ : cmpK (ks.drop i) a b = cmpK ks a b) (h : ¬ a.at c < b.at c) (h' : ¬ b.at c < a.at c) : cmpK (ks.drop (i + 1)) a b = cmpK ks a b := by
  rw [← hJ, drop_at hks, cmpK, if_neg h, if_neg h']
local macro_rules | `(tactic| k_mem) => `(tactic| assumption)
set_option maxHeartbeats 8000000 in
theorem compare_con {w p loose mean mg mb} {news : Ledger} {jv lv rv : Value} {ks : List (Int × Int)} {a b : Tot}
   (hj : JudgeIn news jv ks) (hk : KeysOk ks) (hl : TotIn w news lv a) (hr : TotIn w news rv b) :
   Con PP w (hd.heap_39 w.params) p loose mean mg mb 20 44 [jv, lv, rv] [] news (fun _ v => IntIn v (cmpK ks a b)) := by
  refine con_def (binds := [(Str.ofString "self", jv), (Str.ofString "left", lv), (Str.ofString "right", rv)]) (by k_is) (by k_is) (fun s X => BindsTo.of_eq rfl) (locs rfl) ?_
  intro dp un gd outer A₀ base g L s B F X N T hd hu
  obtain ⟨j, dj, lk, hs, tk, rfl, h1, h2, vs, nl, h3, h4⟩ := hj
  obtain ⟨la, ld, l0, l1, l2, l3, lnn, rfl, hl1, hl2⟩ := hl
  obtain ⟨ra, rd, r0, r1, r2, r3, rnn, rfl, hr1, hr2⟩ := hr
  k_steps
  refine For_turns F ?_
  k_steps
  refine turns_list (n := nl) rfl (by k_asm) (by k_asm) h3 (fun i m nx => nx = news ∧ (∃ u, m = Over [Str.ofString "index", Str.ofString "direction", Str.ofString "l", Str.ofString "r"] u (fun y =>
    List.lookup y [(Str.ofString "self", Value.ref j), (Str.ofString "left", .ref la), (Str.ofString "right", .ref ra)].reverse)) ∧ cmpK (ks.drop i) a b = cmpK ks a b) ⟨rfl, ⟨_, over_self⟩, rfl⟩ (fun i m nx hJ => hJ.1 ▸ h3) ?_ ?_
  · rintro i v m nx h tk I oI hv ⟨rfl, ⟨u, rfl⟩, hJ⟩ hoff hlt F' N'
    obtain ⟨⟨c, d⟩, hks, ka, t0, t1, kn, rfl, hka⟩ := h4.get hv
    have hkk := hk (c, d) (List.mem_of_getElem? hks)
    clear F N
    dsimp only at hka hkk
    replace F' : Fr g L h _ := F'
    replace N' : News g L h _ := N'
    rcases hkk with rfl | rfl | rfl
    all_goals
      k_steps
      · rename_i F2 N2 q
        dsimp only [TPost]
        exact BEnd.ret [] F2 (News.sub N2 fun _ h => .tail _ h) Above.nil ⟨_, congrArg (fun i => Value.int i _) (cmpK_lt hks hJ q).symm⟩
      · rename_i F2 N2 q q'
        dsimp only [TPost]
        exact BEnd.ret [] F2 (News.sub N2 fun _ h => .tail _ h) Above.nil ⟨_, congrArg (fun i => Value.int i _) (cmpK_gt hks hJ q q').symm⟩
      · rename_i F2 N2 q q'
        refine ⟨_, _, _, nx, rfl, F2, N2, fun p hp he => hoff p hp (List.mem_singleton.mp he), rfl, ⟨_, over_of ?_⟩, cmpK_on hks hJ q q'⟩
        intro z hz
        have hz' := hz
        simp only [List.contains_cons, List.contains_nil, Bool.or_false, Bool.or_eq_false_iff, beq_eq_false_iff_ne] at hz
        simp only [hz, if_false]
        exact over_out (S := [Str.ofString "index", Str.ofString "direction", Str.ofString "l", Str.ofString "r"]) hz'
  · rintro h tk m nx ⟨rfl, ⟨u, rfl⟩, hJ⟩ F' N'
    clear F N
    replace F' : Fr g L h _ := F'
    replace N' : News g L h _ := N'
    rw [h4.length, List.drop_length] at hJ
    k_steps
    dsimp only
    exact BEnd.ret [] F' N' Above.nil ⟨_, congrArg (fun i => Value.int i _) hJ⟩
end Mine
end
section
open PySem PySem.W PyProof.Rows
set_option Elab.async false
namespace Mine
set_option maxRecDepth 100000
theorem fillAddC : (PySem.Challenge.rw_pg0156_01, hd.heap_39) = (PySem.Challenge.rw_pg0156_01, hd.heap_39) := by k_fill; rfl
local macro_rules | `(tactic| k_mem) => `(tactic| assumption)
section
variable {prog : Program} {w : World} {A : Around} {E : Value → Shared → Prop} {s : Shared} {h₀ : Heap} {L : Addr} {m : Str → Option Value} {nx : Ledger}
theorem setItem_own {d : Addr} {o : Obj} {kvs : List (Str × Value)} {k : Str} {key v : Value} {Q : Unit → Shared → Prop} (F : Fr h₀ L s.heap m) (N : News h₀ L s.heap nx) (hm : (d, o) ∈ nx) (hd : o.IsDictOf (strKind prog w) kvs)
    (hkey : (strKind prog w).is k key = true) (hz : kvs.length ≤ sizeLine)
    (h : ∀ h' o', Fr h₀ L h' m → (∀ R : Ledger, (∀ p ∈ R, p ∈ nx) → (∀ p ∈ R, p.1 ≠ d) → News h₀ L h' ((d, o') :: R)) → o'.IsDictOf (strKind prog w) (stored kvs k v) → Q () { s with heap := h', toks := s.toks + 1 }) :
    wpAny (model prog w) A (setItem (.ref d) key v) Q E s := by
  have hD := N _ hm
  refine wpAny_setItem_pairs (hsz := hz) hkey (Heap.dictOf_iff.mpr ⟨o, hD.1, hd⟩) fun h' hd' hs' => ?_
  obtain ⟨o', ho', hd'⟩ := Heap.dictOf_iff.mp hd'
  refine h h' o' (F.change hs' hD.2.1 hD.2.2) (fun R hR hne p hp => ?_) hd'
  rcases List.mem_cons.mp hp with rfl | hp
  · exact ⟨ho', hD.2⟩
  · exact ⟨hs'.extBut _ _ (hne p hp) (N p (hR p hp)).1, (N p (hR p hp)).2⟩
theorem in_own {d : Addr} {o : Obj} {kvs : List (Str × Value)} {k : Str} {key : Value} {Q : Value → Shared → Prop} (N : News h₀ L s.heap nx) (hm : (d, o) ∈ nx) (hs : (d == sysModules) = false) (hd : o.IsDictOf (strKind prog w) kvs)
    (hkey : (strKind prog w).is k key = true) (h : Q (.bool (valueAt kvs k).isSome) { s with toks := s.toks + 1 }) : wpAny (model prog w) A (compareOp .In key (.ref d)) Q E s :=
  wpAny_in_of hkey hs (Heap.DictOf.mapOf (Heap.dictOf_iff.mpr ⟨o, (N _ hm).1, hd⟩)) h
end
theorem valueAt_none {kvs : List (Str × Value)} {k : Str} (h : k ∉ kvs.map (·.1)) : valueAt kvs k = none := by
  unfold valueAt
  rw [List.find?_eq_none.mpr]; rfl
  intro kv hkv hc
  exact h (List.mem_map.mpr ⟨kv, hkv, by simpa using hc⟩)
theorem stored_new {kvs : List (Str × Value)} {k : Str} {v : Value} (h : k ∉ kvs.map (·.1)) : stored kvs k v = kvs ++ [(k, v)] := by
  unfold stored
  rw [if_neg]
  intro hc
  obtain ⟨kv, hkv, e⟩ := List.any_eq_true.mp hc
  exact h (List.mem_map.mpr ⟨kv, hkv, by simpa using e⟩)
inductive ACD (w : World) (news : Ledger) (nd : Addr) (ks : List (Str × Value)) (nx : Ledger) : Prop
  | mk (o : Obj) (kvs : List (Str × Value)) (q1 : nx = (nd, o) :: news) (q2 : o.IsDictOf (strKind PP w) kvs) (q3 : kvs = ks) : ACD w news nd ks nx
inductive ACJ (w : World) (news : Ledger) (nd dt ds : Addr) (ks : Nat → List (Str × Value)) (i : Nat) (m : Str → Option Value) (nx : Ledger) : Prop
  | mk (q0 : ACD w news nd (ks i) nx) (u : Str → Option Value) (q5 : m = Over [Str.ofString "func", Str.ofString "caller"] u (fun y => if y = Str.ofString "new_callers" then some (Value.ref nd) else List.lookup y [(Str.ofString "target", Value.ref dt), (Str.ofString "source", Value.ref ds)].reverse)) : ACJ w news nd dt ds ks i m nx
set_option maxHeartbeats 8000000 in
theorem add_callers_con {w p loose mean mg mb} {news : Ledger} {dt ds : Addr} {ls ms : List Str} (ht : LettersAt w news dt ls) (hs : LettersAt w news ds ms) (hdis : ∀ x ∈ ms, x ∉ ls) (hz : ls.length + ms.length ≤ 1000) :
   Con PP w (hd.heap_39 w.params) p loose mean mg mb 10 65 [.ref dt, .ref ds] [] news (fun nx v => ∃ d, v = .ref d ∧ LettersAt w nx d (ls ++ ms)) := by
  refine con_def (binds := [(Str.ofString "target", .ref dt), (Str.ofString "source", .ref ds)]) (by k_is) (by k_is) (fun s X => BindsTo.of_eq rfl) (locs rfl) ?_
  intro dp un gd outer A₀ base g L s B F X N T hd hu
  have hnt := ht.nodup
  have hns := hs.nodup
  obtain ⟨ot, kt, t1, t2, t3, rfl, t5⟩ := ht
  obtain ⟨os, ks, s1, s2, s3, rfl, s5⟩ := hs
  rw [List.length_map, List.length_map] at hz
  k_steps
  rename_i nd h1 on l1 lo hon _ _ _ h2 F2 N2
  refine For_turns F2 ?_
  refine wpAny_Call_items (knd := strKind PP w) t2 (Heap.dictOf_iff.mpr ⟨ot, (N2 _ (.tail _ t1)).1, t3⟩) rfl rfl (fun Q' q => ld F2 rfl q) ?_
  refine turns_items (knd := strKind PP w) (d := dt) (od := ot) (kvs := kt) rfl (F2.push _) (fun p hp => ⟨Heap.get?_push_of_some _ (N2 p hp).1, (N2 p hp).2⟩) ⟨_, Heap.get?_push_size _ rfl, rfl, rfl⟩ (.tail _ t1) t3
    (ACJ w news nd dt ds (fun i => kt.take i))
    ⟨⟨on, [], rfl, hon, by simp⟩, _, over_self⟩ (fun i m nx hJ => by obtain ⟨⟨o, kvs, rfl, _⟩, _⟩ := hJ; exact .tail _ t1) ?_ ?_
  · rintro i k v key T' m nx h tk I oI hkv hkey hT ⟨⟨o, kvs, rfl, ho, rfl⟩, u, rfl⟩ hoff hlt F' N'
    obtain ⟨tk', rfl⟩ := Value.isStrOf_shape hkey
    clear F2 N2
    replace F' : Fr g L h _ := F'
    replace N' : News g L h _ := N'
    k_steps
    rename_i h3 tk3 h4 h5 F3 N3
    have hk : k ∉ (kt.take i).map (·.1) := by rw [List.map_take]; exact nodup_at hnt (by rw [List.getElem?_map, hkv]; rfl)
    refine setItem_own F3 N3 (.tail _ (.head _)) ho hkey (by rw [sizeLine_eq, List.length_take]; omega) fun h6 o' F4 N4 ho' => ?_
    rw [stored_new hk] at ho'
    have N5 := N4 ((I, oI) :: news) (fun p hp => by rcases List.mem_cons.mp hp with rfl | hp; exact .head _; exact .tail _ (.tail _ hp))
      (fun p hp => by rcases List.mem_cons.mp hp with rfl | hp; exact (hoff _ (.head _)).symm; exact Nat.ne_of_lt (l1 p hp))
    clear F3 N3 N4
    k_steps
    refine ⟨_, _, _, (nd, o') :: news, rfl, F4, fun p hp => N5 p ?_, fun p hp he => ?_, ⟨o', _, rfl, ho', (take_at hkv).symm⟩, _, over_of ?_⟩
    · rcases List.mem_cons.mp hp with rfl | hp
      · exact .tail _ (.head _)
      · rcases List.mem_cons.mp hp with rfl | hp
        · exact .head _
        · exact .tail _ (.tail _ hp)
    · rcases List.mem_cons.mp hp with rfl | hp
      · exact hoff _ (.head _) (List.mem_singleton.mp he)
      · exact hoff _ (.tail _ hp) (List.mem_singleton.mp he)
    · intro z hz
      have hz' := hz
      simp only [List.contains_cons, List.contains_nil, Bool.or_false, Bool.or_eq_false_iff, beq_eq_false_iff_ne] at hz
      simp only [hz, if_false]
      exact over_out (S := [Str.ofString "func", Str.ofString "caller"]) hz'
  · rintro h tk m nx ⟨⟨o, kvs, rfl, ho, rfl⟩, u, rfl⟩ F' N'
    clear F2 N2
    replace F' : Fr g L h _ := F'
    replace N' : News g L h _ := N'
    rw [List.take_length] at ho
    k_steps
    refine For_turns F' ?_
    refine wpAny_Call_items (knd := strKind PP w) s2 (Heap.dictOf_iff.mpr ⟨os, (N' _ (.tail _ s1)).1, s3⟩) rfl rfl (fun Q' q => ld F' rfl q) ?_
    refine turns_items (knd := strKind PP w) (d := ds) (od := os) (kvs := ks) rfl (F'.push _) (fun p hp => ⟨Heap.get?_push_of_some _ (N' p hp).1, (N' p hp).2⟩) ⟨_, Heap.get?_push_size _ rfl, rfl, rfl⟩ (.tail _ s1) s3
      (ACJ w news nd dt ds (fun i => kt ++ ks.take i))
      ⟨⟨o, kt, rfl, ho, by simp⟩, u, rfl⟩ (fun i m nx hJ => by obtain ⟨⟨o, kvs, rfl, _⟩, _⟩ := hJ; exact .tail _ s1) ?_ ?_
    · rintro i k v key T' m nx h tk I oI hkv hkey hT ⟨⟨o, kvs, rfl, ho, rfl⟩, u, rfl⟩ hoff hlt F' N'
      obtain ⟨tk', rfl⟩ := Value.isStrOf_shape hkey
      replace F' : Fr g L h _ := F'
      replace N' : News g L h _ := N'
      have hkm : (ks.map (·.1))[i]? = some k := by rw [List.getElem?_map, hkv]; rfl
      have hk : k ∉ (kt ++ ks.take i).map (·.1) := by
        rw [List.map_append, List.map_take, List.mem_append]
        rintro (q | q)
        · exact hdis k (List.mem_of_getElem? hkm) q
        · exact nodup_at hns hkm q
      k_steps
      rename_i h3 tk3 h4 h5 F3 N3
      refine in_own N3 (.tail _ (.head _)) lo ho hkey ?_
      rw [valueAt_none hk]
      dsimp only [Option.isSome]
      k_steps
      refine setItem_own F3 N3 (.tail _ (.head _)) ho hkey (by rw [sizeLine_eq, List.length_append, List.length_take]; omega) fun h6 o' F4 N4 ho' => ?_
      rw [stored_new hk] at ho'
      have N5 := N4 ((I, oI) :: news) (fun p hp => by rcases List.mem_cons.mp hp with rfl | hp; exact .head _; exact .tail _ (.tail _ hp))
        (fun p hp => by rcases List.mem_cons.mp hp with rfl | hp; exact (hoff _ (.head _)).symm; exact Nat.ne_of_lt (l1 p hp))
      clear F3 N3 N4
      k_steps
      refine ⟨_, _, _, (nd, o') :: news, rfl, F4, fun p hp => N5 p ?_, fun p hp he => ?_, ⟨o', _, rfl, ho', by rw [take_at hkv, List.append_assoc]⟩, _, over_of ?_⟩
      · rcases List.mem_cons.mp hp with rfl | hp
        · exact .tail _ (.head _)
        · rcases List.mem_cons.mp hp with rfl | hp
          · exact .head _
          · exact .tail _ (.tail _ hp)
      · rcases List.mem_cons.mp hp with rfl | hp
        · exact hoff _ (.head _) (List.mem_singleton.mp he)
        · exact hoff _ (.tail _ hp) (List.mem_singleton.mp he)
      · intro z hz
        have hz' := hz
        simp only [List.contains_cons, List.contains_nil, Bool.or_false, Bool.or_eq_false_iff, beq_eq_false_iff_ne] at hz
        simp only [hz, if_false]
        exact over_out (S := [Str.ofString "func", Str.ofString "caller"]) hz'
    · rintro h tk m nx ⟨⟨o, kvs, rfl, ho, rfl⟩, u, rfl⟩ F' N'
      replace F' : Fr g L h _ := F'
      replace N' : News g L h _ := N'
      rw [List.take_length] at ho
      k_steps
      dsimp only
      refine BEnd.ret [(nd, o)] F' N' (Above.nil.cons l1) ⟨nd, rfl, o, _, .head _, lo, ho, by rw [List.map_append], fun kv hkv => ?_⟩
      rcases List.mem_append.mp hkv with q | q
      · exact t5 kv q
      · exact s5 kv q
end Mine
end
section
open PySem PySem.W PyProof.Rows
set_option Elab.async false
namespace Mine
set_option maxRecDepth 100000
theorem fillAddF : (PySem.Challenge.rw_pg0156_01, hd.heap_39) = (PySem.Challenge.rw_pg0156_01, hd.heap_39) := by k_fill; rfl
local macro_rules | `(tactic| k_mem) => `(tactic| assumption)
local macro_rules | `(tactic| walk_at "call ref") => `(tactic| ((with_reducible show wpAny _ _ (call (Value.ref 65) _ _) _ _ _); refine halt ?_))
def Tot.add (t e : Tot) : Tot := ⟨e.x + t.x, e.y + t.y, e.z + t.z, e.n + t.n, t.ls ++ e.ls⟩
set_option maxHeartbeats 8000000 in
theorem add_func_stats_con {w p loose mean mg mb} {news : Ledger} {tv ev : Value} {t e : Tot} (ht : TotIn w news tv t) (he : TotIn w news ev e) (hdis : ∀ x ∈ e.ls, x ∉ t.ls) (hz : t.ls.length + e.ls.length ≤ 1000) :
   Con PP w (hd.heap_39 w.params) p loose mean mg mb 20 58 [tv, ev] [] news (fun nx v => TotIn w nx v (t.add e)) := by
  refine con_def (binds := [(Str.ofString "target", tv), (Str.ofString "source", ev)]) (by k_is) (by k_is) (fun s X => BindsTo.of_eq rfl) (locs rfl) ?_
  intro dp un gd outer A₀ base g L s B F X N T hd hu
  obtain ⟨ta, td, t0, t1, t2, t3, tn, rfl, ht1, ht2⟩ := ht
  obtain ⟨ea, ed, e0, e1, e2, e3, en, rfl, he1, he2⟩ := he
  k_steps
  rename_i F2 N2
  refine Con.use (add_callers_con ht2 he2 hdis hz) B F2 X N2 T (by omega) (by omega) ?_
  rintro r add h' tk' F3 N3 U ⟨d, rfl, hL⟩
  clear F2 N2
  k_steps
  rename_i D h2 F2 N2 l1
  exact BEnd.ret (_ :: add) F2 N2 (U.cons fun q hq => l1 q (List.mem_append_right _ hq)) ⟨D, d, _, _, _, _, _, rfl, .head _, hL.mono fun _ h => .tail _ h⟩
end Mine
end
section
open PySem PySem.W PyProof.Rows
set_option Elab.async false
namespace Mine
set_option maxRecDepth 100000
theorem fillSums : (PySem.Challenge.rw_pg0156_01, hd.heap_39) = (PySem.Challenge.rw_pg0156_01, hd.heap_39) := by k_fill; rfl
local macro_rules | `(tactic| k_mem) => `(tactic| assumption)
local macro_rules | `(tactic| walk_at "call ref") => `(tactic| ((with_reducible show wpAny _ _ (call (Value.ref 58) _ _) _ _ _); refine halt ?_))
local macro_rules | `(tactic| walk_at "exec For Name Name cons nil") => `(tactic| refine halt ?_)
local macro_rules | `(tactic| k_all) => `(tactic| assumption)
def zeroT : Tot := ⟨0, 0, 0, 0, []⟩
def tot (es : List Tot) : Tot := es.foldl Tot.add zeroT
def sumsL (es : List Tot) : List Tot := (List.range (es.length + 1)).map fun i => tot (es.take i)
theorem tot_snoc (l : List Tot) (e : Tot) : tot (l ++ [e]) = (tot l).add e := by unfold tot; rw [List.foldl_append]; rfl
theorem sumsL_snoc (l : List Tot) (e : Tot) : sumsL (l ++ [e]) = sumsL l ++ [(tot l).add e] := by
  unfold sumsL
  rw [List.length_append, List.length_singleton, List.range_succ, List.map_append]
  congr 1
  · apply List.map_congr_left
    intro i hi
    rw [List.take_append_of_le_length (by have := List.mem_range.mp hi; omega)]
  · rw [List.map_singleton, List.take_of_length_le (by simp), tot_snoc]
theorem tot_ls (es : List Tot) : (tot es).ls = es.flatMap (·.ls) := by
  have : ∀ (es : List Tot) (t : Tot), (es.foldl Tot.add t).ls = t.ls ++ es.flatMap (·.ls) := by
    intro es
    induction es with
    | nil => intro t; simp
    | cons e r ih => intro t; rw [List.foldl_cons, ih]; simp [Tot.add]
  rw [tot, this]; rfl
inductive TotsIn (w : World) (news : Ledger) (v : Value) (ts : List Tot) : Prop
  | mk (l : Addr) (vs : List Value) (n : Nat) (q1 : v = .ref l) (q2 : (l, listOf vs.toArray n) ∈ news) (q3 : All2 (TotIn w news) vs ts) : TotsIn w news v ts
theorem TotsIn.mono {w : World} {a b : Ledger} {v : Value} {ts : List Tot} (h : TotsIn w a v ts) (k : ∀ p ∈ a, p ∈ b) : TotsIn w b v ts := by
  obtain ⟨l, vs, n, e, h1, h2⟩ := h
  exact ⟨l, vs, n, e, k _ h1, h2.imp fun _ _ h => h.mono k⟩
inductive SMR (w : World) (es : List Tot) (news : Ledger) (l : Addr) (i : Nat) (nx : Ledger) : Prop
  | mk (R : Ledger) (vs' : List Value) (k : Nat) (q1 : nx = (l, listOf vs'.toArray k) :: (R ++ news)) (q2 : Above R news) (q3 : ∀ q ∈ R ++ news, q.1 ≠ l) (q4 : All2 (TotIn w R) vs' (sumsL (es.take i))) : SMR w es news l i nx
inductive SMJ (w : World) (es : List Tot) (news : Ledger) (l el : Addr) (i : Nat) (m : Str → Option Value) (nx : Ledger) : Prop
  | mk (q0 : SMR w es news l i nx) (u : Str → Option Value) (q5 : m = Over [Str.ofString "entry"] u (fun y => if y = Str.ofString "sums" then some (Value.ref l) else List.lookup y [(Str.ofString "entries", Value.ref el)].reverse)) : SMJ w es news l el i m nx
set_option maxHeartbeats 8000000 in
theorem law_sums_con {w p loose mean mg mb} {news : Ledger} {ev : Value} {es : List Tot} (he : TotsIn w news ev es) (hnd : (es.flatMap (·.ls)).Nodup) (hz : (es.flatMap (·.ls)).length ≤ 500) (hzl : es.length ≤ 500) :
   Con PP w (hd.heap_39 w.params) p loose mean mg mb 30 86 [ev] [] news (fun nx v => TotsIn w nx v (sumsL es)) := by
  refine con_def (binds := [(Str.ofString "entries", ev)]) (by k_is) (by k_is) (fun s X => BindsTo.of_eq rfl) (locs rfl) ?_
  intro dp un gd outer A₀ base g L s B F X N T hd hu
  obtain ⟨el, vs, n, rfl, h1, h2⟩ := he
  k_steps
  rename_i d h1' od l1 lo hod _ _ _ D h2' l2 l h3' l3 h4' F2 N2
  have hl : ∀ q ∈ news, q.1 < l := ktn_ltOf l3.2.2
  have hDn : ∀ q ∈ news, q.1 < D := ktn_ltOf l2.2
  generalize hdO : (D, ({ cls := .type "tuple", data := .seq #[.int 0 s.toks, .int 0 (s.toks + 1), .int 0 (s.toks + 1 + 1), .int 0 (s.toks + 1 + 1 + 1), .ref d] } : Obj)) = pD at N2
  have T0 : TotIn w [pD, (d, od)] (.ref D) zeroT := by
    rw [← hdO]
    exact ⟨D, d, _, _, _, _, _, rfl, .head _, od, [], .tail _ (.head _), lo, hod, rfl, fun kv hkv => nomatch hkv⟩
  refine For_turns F2 ?_
  k_steps
  refine turns_list (n := n) (vs := vs) rfl F2 N2 (.tail _ (.tail _ (.tail _ h1))) (SMJ w es news l el)
    ⟨⟨[pD, (d, od)], [.ref D], 0, rfl, ?_, ?_, .cons T0 .nil⟩, _, over_self⟩ (fun i m nx hJ => ?_) ?_ ?_
  · rw [← hdO]; exact (Above.nil.cons l1).cons hDn
  · rw [← hdO]
    intro q hq
    rcases List.mem_cons.mp hq with rfl | hq
    · exact Nat.ne_of_lt l3.1
    · rcases List.mem_cons.mp hq with rfl | hq
      · exact Nat.ne_of_lt l3.2.1
      · exact Nat.ne_of_lt (hl q hq)
  · obtain ⟨⟨R, vs', k, rfl, _⟩, _⟩ := hJ
    exact .tail _ (List.mem_append_right _ h1)
  · rintro i v m nx h tk I oI hv ⟨⟨R, vs', k, rfl, U, hoffl, hts⟩, u, rfl⟩ hoff hlt F' N'
    clear F2 N2
    replace F' : Fr g L h _ := F'
    replace N' : News g L h _ := N'
    k_steps
    rename_i hh2 F2 N2
    obtain ⟨e, hes, hTe⟩ := h2.get hv
    have hi : i < es.length := (List.getElem?_eq_some_iff.mp hes).1
    have hvl : vs'.length = i + 1 := by
      rw [hts.length]; simp only [sumsL, List.length_map, List.length_range, List.length_take]; omega
    obtain ⟨x, hx, hTx⟩ := hts.get' (i := i) (b := tot (es.take i)) (by
      simp only [sumsL, List.getElem?_map, List.length_take]
      rw [List.getElem?_range (by omega)]
      simp [List.take_take])
    refine item_neg N2 (.tail _ (.head _)) (by decide) (by rw [hvl]; omega) (by decide) (x := x) (by rw [hvl, show ((-1 : Int) + ((i + 1 : Nat) : Int)).toNat = i by omega]; exact hx) ?_
    k_steps
    have hsp := split_at hes
    have hdisj : ∀ y ∈ e.ls, y ∉ (tot (es.take i)).ls := by
      intro y hy
      rw [tot_ls]
      have hn := hnd
      rw [hsp, List.flatMap_append, List.flatMap_cons] at hn
      intro hc
      exact (List.nodup_append.mp hn).2.2 y hc y (List.mem_append.mpr (.inl hy)) rfl
    have hlen : (tot (es.take i)).ls.length + e.ls.length ≤ 1000 := by
      rw [tot_ls]
      have hn := hz
      rw [hsp, List.flatMap_append, List.flatMap_cons, List.length_append, List.length_append] at hn
      omega
    refine Con.use (add_func_stats_con (hTx.mono fun _ h => .tail _ (.tail _ (List.mem_append_left _ h))) (hTe.mono fun _ h => .tail _ (.tail _ (List.mem_append_right _ h))) hdisj hlen) B F2 X N2 T (dpK hd (by decide)) (dpK hu (by decide)) ?_
    rintro r add h' tk' F3 N3 U3 hr
    have hIl : I ≠ l := fun e => hoff _ (.head _) e.symm
    have hRl : ∀ q ∈ add ++ (R ++ news), q.1 ≠ l := fun q hq => by
      rcases List.mem_append.mp hq with hq | hq
      · exact U3.ne (.tail _ (.head _)) q hq
      · exact hoffl q hq
    have hRI : ∀ q ∈ add ++ (R ++ news), q.1 ≠ I := fun q hq => by
      rcases List.mem_append.mp hq with hq | hq
      · exact U3.ne (.head _) q hq
      · exact hoff q (.tail _ hq)
    have N4 : News g L h' ((I, oI) :: (l, listOf vs'.toArray k) :: (add ++ (R ++ news))) := News.sub N3 fun p hp => by
      rcases List.mem_cons.mp hp with rfl | hp
      · exact List.mem_append_right _ (.head _)
      · rcases List.mem_cons.mp hp with rfl | hp
        · exact List.mem_append_right _ (.tail _ (.head _))
        · rcases List.mem_append.mp hp with hp | hp
          · exact List.mem_append_left _ hp
          · exact List.mem_append_right _ (.tail _ (.tail _ hp))
    have hszv : vs'.length ≤ 600 := by omega
    clear N3 N2 F2
    k_steps
    rename_i hh5 F5 N5
    rw [List.push_toArray] at N5
    refine ⟨_, _, _, (l, listOf (vs' ++ [r]).toArray (k + 1)) :: ((add ++ R) ++ news), rfl, F5, ?_, fun p hp he => ?_, ⟨add ++ R, vs' ++ [r], k + 1, rfl, ?_, ?_, ?_⟩, _, over_of ?_⟩
    · rw [List.append_assoc]; exact N5
    · rw [List.append_assoc] at hp
      rw [List.mem_singleton] at he
      rcases List.mem_cons.mp hp with rfl | hp
      · exact hIl he.symm
      · exact hRI p hp he
    · exact (U3.mono fun p hp => .tail _ (.tail _ (List.mem_append_right _ hp))).append U
    · rw [List.append_assoc]; exact hRl
    · rw [take_at hes, sumsL_snoc]
      exact (hts.imp fun _ _ h => h.mono fun _ h => List.mem_append_right _ h).append (.cons (hr.mono fun _ h => List.mem_append_left _ h) .nil)
    · intro z hz
      have hz' := hz
      simp only [List.contains_cons, List.contains_nil, Bool.or_false, beq_eq_false_iff_ne] at hz
      simp only [hz, if_false]
      exact over_out (S := [Str.ofString "entry"]) hz'
  · rintro h tk m nx ⟨⟨R, vs', k, rfl, U, hoffl, hts⟩, u, rfl⟩ F' N'
    clear F2 N2
    replace F' : Fr g L h _ := F'
    replace N' : News g L h _ := N'
    rw [h2.length, List.take_length] at hts
    k_steps
    dsimp only
    exact BEnd.ret ((l, listOf vs'.toArray k) :: R) F' N' (U.cons hl) ⟨l, vs', k, rfl, .head _, hts.imp fun _ _ h => h.mono fun _ h => .tail _ h⟩
end Mine
end
section
open PySem PySem.W PyProof.Rows
set_option Elab.async false
namespace Mine
set_option maxRecDepth 100000
theorem fillBis : (PySem.Challenge.rw_pg0156_01, hd.heap_39) = (PySem.Challenge.rw_pg0156_01, hd.heap_39) := by k_fill; rfl
local macro_rules | `(tactic| k_mem) => `(tactic| assumption)
local macro_rules | `(tactic| walk_at "call ref") => `(tactic| refine halt ?_)
local macro_rules | `(tactic| walk_at "exec While Compare cons nil") => `(tactic| refine halt ?_)
local macro_rules | `(tactic| walk_at "eval Name") => `(tactic| (k_here; k_dflt (refine' ld ?k1 ?k2 ?_; (case k1 => k_asm); (case k2 => assumption); k_whole)))
section
variable {lo hi k n : Nat} (h : (lo : Int) < hi)
theorem bs_mid : ((lo : Int) + hi).fdiv 2 = (((lo + hi) / 2 : Nat) : Int) := by rw [Int.fdiv_eq_ediv_of_nonneg _ (by decide)]; omega
include h
theorem bs_lt (q : hi ≤ n) : (lo + hi) / 2 < n := by omega
theorem bs_a : hi - ((lo + hi) / 2 + 1) < hi - lo := by omega
theorem bs_b : (lo + hi) / 2 - lo < hi - lo := by omega
theorem bs_c (q : hi ≤ n) : (lo + hi) / 2 ≤ n := by omega
end
theorem bs_fit {j n : Nat} (h : j < n) (q : n ≤ 1000) : (j : Int) < 2 ^ 63 := by omega
theorem bs_end {lo hi k : Nat} (h : ¬ (lo : Int) < hi) (h1 : lo ≤ k) (h2 : k ≤ hi) : lo = k := by omega
inductive BIJ (vs : List Value) (rl fk : Addr) (t0 : Tok) (k : Nat) (news : Ledger) (n : Nat) (m : Str → Option Value) (nx : Ledger) : Prop
  | mk (lo hi : Nat) (tl th : Tok) (q1 : lo ≤ k) (q2 : k ≤ hi) (q3 : hi ≤ vs.length) (q4 : n = hi - lo) (q5 : nx = news) (q6 : m (Str.ofString "a") = some (.ref rl)) (q7 : m (Str.ofString "x") = some (.int 0 t0)) (q8 : m (Str.ofString "key") = some (.ref fk))
    (q9 : m (Str.ofString "lo") = some (.int lo tl)) (q10 : m (Str.ofString "hi") = some (.int hi th)) : BIJ vs rl fk t0 k news n m nx
set_option maxHeartbeats 8000000 in
theorem bisect_con {w p loose mean mg mb} {news : Ledger} {rl fk : Addr} {vs : List Value} {n : Nat} {t0 : Tok} {fd : FuncData} {oc : Value} {od : Option Addr} {osl : Array (Option Value)} {keys : List Int} {k : Nat}
   (hr : (rl, listOf vs.toArray n) ∈ news) (hf : (fk, (⟨oc, od, .func fd, osl⟩ : Obj)) ∈ news) (hz : vs.length ≤ 1000) (hl : keys.length = vs.length)
   (hkey : ∀ (i : Nat) x (c : Int), vs[i]? = some x → keys[i]? = some c → Con PP w (hd.heap_39 w.params) p loose mean mg mb 30 fk [x] [] news (fun _ v => IntIn v c))
   (hcut : ∀ (i : Nat) (c : Int), keys[i]? = some c → (c < 0 ↔ i < k)) (hk : k ≤ vs.length) :
   Con PP w (hd.heap_39 w.params) p loose mean mg mb 40 23 [.ref rl, .int 0 t0] [(Str.ofString "key", .ref fk)] news (fun _ v => IntIn v k) := by
  refine con_def (binds := [(Str.ofString "a", .ref rl), (Str.ofString "x", .int 0 t0), (Str.ofString "lo", .int 0 189), (Str.ofString "hi", .none), (Str.ofString "key", .ref fk)]) (by k_is) (by k_is) (fun s X => binds_K X rfl (by k_is) rfl rfl rfl) (locs rfl) ?_
  intro dp un gd outer A₀ base g L s B F X N T hd hu
  k_steps
  refine len_at N hr (by omega) ?_
  k_steps
  rename_i h1 F1 N1
  refine While_inv (BIJ vs rl fk t0 k news) F1 N1 ⟨0, vs.length, _, _, Nat.zero_le _, hk, Nat.le_refl _, rfl, rfl, rfl, rfl, rfl, rfl, rfl⟩ ?_
  rintro n' m nx h2 tk F2 N2 ⟨lo, hi, tl, th, hlo, hhi, hhl, rfl, rfl, ma, mx, mk, ml, mh⟩
  clear F1 N1
  k_steps
  · rename_i hlt h3 F3 N3
    simp only [bs_mid] at F3
    have hm1 : (lo + hi) / 2 < vs.length := bs_lt hlt hhl
    have hm2 : (lo + hi) / 2 < keys.length := hl ▸ hm1
    refine callWith_F (FnAt.of N3 hf) ?_
    k_steps
    refine item_at N3 hr (Int.natCast_nonneg _) (bs_fit hm1 hz) (x := vs[(lo + hi) / 2]) (by rw [Int.toNat_natCast]; exact List.getElem?_eq_getElem hm1) ?_
    k_steps
    refine Con.use (hkey ((lo + hi) / 2) _ keys[(lo + hi) / 2] (by simp [hm1]) (by simp [hm2])) B F3 X N3 T (dpK hd (by decide)) (dpK hu (by decide)) ?_
    rintro r add h4 tk4 F4 N4 U ⟨tc, rfl⟩
    have hc := hcut ((lo + hi) / 2) keys[(lo + hi) / 2] (by simp [hm2])
    replace N4 : News g L h4 nx := News.sub N4 fun _ h => List.mem_append_right _ h
    clear F3 N3
    k_steps
    · rename_i q h5 F5 N5
      have hq := hc.mp q
      exact WhileStep.intro F5 N5 (n' := hi - ((lo + hi) / 2 + 1)) (bs_a hlt) ⟨(lo + hi) / 2 + 1, hi, _, _, hq, hhi, hhl, rfl, rfl, ma, mx, mk, rfl, mh⟩
    · rename_i q h5 F5 N5
      have hq := fun e => q (hc.mpr e)
      exact WhileStep.intro F5 N5 (n' := (lo + hi) / 2 - lo) (bs_b hlt) ⟨lo, (lo + hi) / 2, _, _, hlo, Nat.le_of_not_lt hq, bs_c hlt hhl, rfl, rfl, ma, mx, mk, ml, rfl⟩
  · rename_i hlt
    dsimp only
    exact BEnd.ret [] F2 N2 Above.nil ⟨_, by rw [bs_end hlt hlo hhi]⟩
end Mine
end
section
open PySem PySem.W PyProof.Rows PySem.Calls
set_option Elab.async false
namespace Mine
set_option maxRecDepth 100000
/-- the table of a def's inner code: empty, or the lambda's code alone -/
def TabOk (pos : Pos) (qual : Str) (ps : Array Value) (R : Ledger) : Prop :=
  ps = #[] ∨ ∃ (c' : Addr) (oc : Obj) (ovs : Array Value) (t : Tok), ps = #[rawInt pos.line, rawInt pos.col, .ref c'] ∧ (c', oc) ∈ R ∧ oc.data = .fields ovs ∧ ovs[1]? = some (.str qual t)
section
variable {M : Model} {A : Around} {E : Value → Shared → Prop} {s : Shared} {h₀ : Heap} {L a c P : Addr} {m mg mb : Str → Option Value} {cn : Str} {cs : Scope} {ccd : Value} {cl : List (Str × Addr)}
  {p : Program} {loose : List Str} {mean : ExcName → Option Value} {name qual : Str} {params : Arguments} {body : PySem.Expr} {scope : Scope} {ps : Array Value} {pos : Pos} {firstLine : Nat} {clos : List (Str × Addr)}
theorem lam_uni {Q : Value → Shared → Prop} {pre R : Ledger} (F : Fr h₀ L s.heap m) (N : News h₀ L s.heap (pre ++ (P, tabObj ps) :: R)) (h1 : ∀ q ∈ pre, q.1 ≠ P) (h2 : ∀ q ∈ R, q.1 ≠ P) (T : Top p loose mean mg mb h₀) (C : CodeHd h₀ c P) (hcd : ccd = .ref c)
    (hcl : closureFor scope (envX cn cs L a ccd cl) = pure clos) (ht : TabOk pos qual ps R)
    (h : ∀ (f c' : Addr) (oc : Obj) (ovs : Array Value) (t : Tok) (ctv : Value) (h' : Heap) (tk : Nat) (R' : Ledger), Fr h₀ L h' m →
      News h₀ L h' ((f, kla_obj name qual params body scope clos ((mg "__name__").getD .none) c' ctv) :: (pre ++ (P, tabObj #[rawInt pos.line, rawInt pos.col, .ref c']) :: (R' ++ R))) →
      (c', oc) ∈ R' ++ R → oc.data = .fields ovs → ovs[1]? = some (.str qual t) → (∀ q ∈ R', ∀ x ∈ pre ++ (P, tabObj ps) :: R, x.1 < q.1) → (∀ q ∈ pre ++ (P, tabObj ps) :: (R' ++ R), q.1 < f) → Q (.ref f) { s with heap := h', toks := tk }) :
    wpAny M A (makeFunction name qual params (.expr body) scope (envX cn cs L a ccd cl) [] [] [] pos firstLine) Q E s := by
  rcases ht with rfl | ⟨c', oc, ovs, t, rfl, hc1, hc2, hc3⟩
  · have U : ∀ pre : Ledger, (∀ q ∈ pre, q.1 ≠ P) → UpdF P (tabObj #[]) (pre ++ (P, tabObj #[]) :: R) (fun o' => pre ++ (P, o') :: R) := by
      intro pre
      induction pre with
      | nil => intro _; exact .head h2
      | cons x r ih => intro hx; exact .tail (hx x (.head _)) (ih fun q hq => hx q (.tail _ hq))
    refine kla_nest F N T C hcd (U pre h1) True.intro rfl hcl fun f c' oc vs t ctv h' tk F' N' d1 d2 l1 l2 => ?_
    refine h f c' oc vs t ctv h' tk [(c', oc)] F' (News.sub N' fun q hq => ?_) (.head _) d1 d2 (fun q hq => ?_) (fun q hq => ?_)
    · rcases List.mem_cons.mp hq with rfl | hq
      · exact .head _
      · rcases List.mem_append.mp hq with hq | hq
        · exact .tail _ (.tail _ (List.mem_append_left _ hq))
        · rcases List.mem_cons.mp hq with rfl | hq
          · exact .tail _ (.tail _ (List.mem_append_right _ (.head _)))
          · rcases List.mem_cons.mp hq with rfl | hq
            · exact .tail _ (.head _)
            · exact .tail _ (.tail _ (List.mem_append_right _ (.tail _ hq)))
    · rw [List.mem_singleton.mp hq]; exact l1
    · rcases List.mem_append.mp hq with hq | hq
      · exact Nat.lt_trans (l1 q (List.mem_append_left _ hq)) l2
      · rcases List.mem_cons.mp hq with rfl | hq
        · exact Nat.lt_trans (l1 _ (List.mem_append_right _ (.head _))) l2
        · rcases List.mem_cons.mp hq with rfl | hq
          · exact l2
          · exact Nat.lt_trans (l1 q (List.mem_append_right _ (.tail _ hq))) l2
  · refine kla_hit F N T C hcd (c' := c') (List.mem_append_right _ (.head _)) (by simp [TriplesOk, rawInt]) (by simp [codeAmong, rawInt]) hcl fun f ctv h' tk F' N' l1 => ?_
    exact h f c' oc ovs t ctv h' tk [] F' N' hc1 hc2 hc3 (fun q hq => nomatch hq) l1
end
end Mine
end
section
open PySem PySem.W PyProof.Rows
set_option Elab.async false
namespace Mine
set_option maxRecDepth 100000
theorem fillTop : (PySem.Challenge.rw_pg0156_01, hd.heap_39) = (PySem.Challenge.rw_pg0156_01, hd.heap_39) := by k_fill; rfl
local macro_rules | `(tactic| k_mem) => `(tactic| assumption)
local macro_rules | `(tactic| k_all) => `(tactic| assumption)
local macro_rules | `(tactic| walk_at "call ref") => `(tactic| refine halt ?_)
local macro_rules | `(tactic| walk_at "exec For Name Name cons nil") => `(tactic| refine halt ?_)
local macro_rules | `(tactic| walk_at "eval Lambda") => `(tactic| refine halt ?_)
def step (W : Tot → Int) (o : Option Tot) (t : Tot) : Option Tot := match o with
  | none => some t
  | some b => some (if W b < W t then t else b)
abbrev Asc (W : Tot → Int) (row : List Tot) : Prop := row.Pairwise fun a b => W a ≤ W b
theorem cut_exists (W : Tot → Int) (t : Tot) : ∀ row : List Tot, Asc W row → ∃ k, k ≤ row.length ∧ (∀ i b, row[i]? = some b → (W b < W t ↔ i < k)) ∧ Asc W (row.take k ++ t :: row.drop k) ∧ (row.take k ++ t :: row.drop k).getLast? = step W row.getLast? t
  | [], _ => ⟨0, Nat.le_refl _, fun i b h => by simp at h, List.pairwise_singleton _ _, rfl⟩
  | a :: r, hs => by
    obtain ⟨h1, h2⟩ := List.pairwise_cons.mp hs
    by_cases hlt : W a < W t
    · obtain ⟨k, e1, e2, e3, e4⟩ := cut_exists W t r h2
      refine ⟨k + 1, Nat.succ_le_succ e1, fun i b hb => ?_, ?_, ?_⟩
      · cases i with
        | zero => simp at hb; subst hb; simp [hlt]
        | succ i => simp at hb; rw [e2 i b hb]; omega
      · rw [List.take_succ_cons, List.drop_succ_cons, List.cons_append]
        refine List.pairwise_cons.mpr ⟨fun b hb => ?_, e3⟩
        rcases List.mem_append.mp hb with q | q
        · exact h1 b (List.mem_of_mem_take q)
        · rcases List.mem_cons.mp q with rfl | q
          · omega
          · exact h1 b (List.mem_of_mem_drop q)
      · rw [List.take_succ_cons, List.drop_succ_cons, List.cons_append, List.getLast?_cons, e4]
        cases r with
        | nil => simp [step, hlt]
        | cons c r => rw [List.getLast?_cons_cons]; cases h : (c :: r).getLast? with
          | none => simp at h
          | some x => simp [step]
    · refine ⟨0, Nat.zero_le _, fun i b hb => ?_, ?_, ?_⟩
      · have : W a ≤ W b := by
          cases i with
          | zero => simp at hb; subst hb; exact Int.le_refl _
          | succ i => simp at hb; exact h1 b (List.mem_of_getElem? hb)
        constructor
        · intro h; omega
        · intro h; exact absurd h (Nat.not_lt_zero _)
      · rw [List.take_zero, List.drop_zero, List.nil_append]
        refine List.pairwise_cons.mpr ⟨fun b hb => ?_, hs⟩
        rcases List.mem_cons.mp hb with rfl | hb
        · omega
        · have := h1 b hb; omega
      · rw [List.take_zero, List.drop_zero, List.nil_append, List.getLast?_cons_cons]
        cases h : (a :: r).getLast? with
        | none => simp at h
        | some x =>
          have hx : W a ≤ W x := by
            have := List.mem_of_getLast? h
            rcases List.mem_cons.mp this with rfl | q
            · exact Int.le_refl _
            · exact h1 x q
          rw [step, if_neg (by omega)]
local macro_rules | `(tactic| walk_at "eval Name") => `(tactic| (k_here; k_dflt (refine' nameX_L ?F ?v ?_ ?a ?b; (case F => k_asm); (case a => rfl); (case b => rfl); (case v => assumption); k_whole)))
inductive LTJ (w : World) (news : Ledger) (L l : Addr) (oJ : Obj) (W : Tot → Int) (ts : List Tot) (m1 : Str → Option Value) (i : Nat) (m : Str → Option Value) (nx : Ledger) : Prop
  | mk (q0 : m = m1) (R : Ledger) (ps : Array Value) (row : List Tot) (vs : List Value) (k : Nat) (oT : Obj) (q1 : nx = (l, listOf vs.toArray k) :: (L + 1 + 1, oT) :: (L + 1, oJ) :: (88, tabObj ps) :: (R ++ news))
    (q2 : ∀ q ∈ R ++ news, q.1 ≠ l) (q3 : ∀ q ∈ R ++ news, q.1 ≠ L + 1 + 1) (q4 : ∀ q ∈ R ++ news, q.1 ≠ L + 1) (q5 : ∀ q ∈ R ++ news, q.1 ≠ 88)
    (q6 : TabOk ⟨111, 43, 111, 82⟩ (Str.ofString "_law_top" ++ Str.ofString ".<locals>." ++ Str.ofString "<lambda>") ps (R ++ news))
    (q7 : ∃ o, oT.data = .cell o) (q8 : All2 (TotIn w news) vs row) (q9 : row.length = i) (q10 : Asc W row) (q11 : ∀ t ∈ row, t ∈ ts) (q12 : row.getLast? = (ts.take i).foldl (step W) none) : LTJ w news L l oJ W ts m1 i m nx
set_option maxHeartbeats 8000000 in
theorem law_top_con {w p loose mean mg mb} {news : Ledger} {sv jv : Value} {ts : List Tot} {ks : List (Int × Int)} {W : Tot → Int}
   (hs : TotsIn w news sv ts) (hj : JudgeIn news jv ks) (hk : KeysOk ks) (hW : ∀ a ∈ ts, ∀ b ∈ ts, (cmpK ks a b < 0 ↔ W a < W b)) (hz : ts.length ≤ 500) {b : Tot} (hb : ts.foldl (step W) none = some b) (h88n : ∀ q ∈ news, q.1 ≠ 88) :
   ConF PP w (hd.heap_39 w.params) p loose mean mg mb 50 93 [sv, jv] [] (fun h => CodeHd h 92 88) ((88, tabObj #[]) :: news) (fun nx v => (∃ ps, (88, tabObj ps) ∈ nx) ∧ (∀ p ∈ news, p ∈ nx) ∧ IntIn v b.n) := by
  refine conF_defC (fun h h' x k => x.keeps k) (binds := [(Str.ofString "sums", sv), (Str.ofString "judge", jv)]) (by k_is) (by k_is) (fun s X => BindsTo.of_eq rfl) rfl (by decide +kernel) ?_
  intro dp un gd outer A₀ base g L cells s B F X N C Y hnl T hd hu
  k_cells Y
  obtain ⟨sl, svs, sn, rfl, hs1, hs2⟩ := hs
  k_steps
  rename_i oT oJ dT dJ l h1 l1 h2 F1 N1
  have h88 : @LT.lt Nat _ 88 L := hnl _ (.head _)
  have hnL : ∀ q ∈ news, q.1 < L := fun q hq => hnl q (.tail _ hq)
  have hlL : @LT.lt Nat _ (L + 1 + 1) l := l1 _ (.head _)
  refine For_turns F1 ?_
  k_steps
  replace dJ : oJ.data = .cell (some jv) := dJ
  generalize hm1 : (fun y => if y = Str.ofString "row" then some (Value.ref l) else bindL (envOfC _ _ _ _ _).kindOf [(Str.ofString "sums", Value.ref sl), (Str.ofString "judge", jv)] (fun x => none) y) = m1 at F1
  have mrow : m1 (Str.ofString "row") = some (.ref l) := by rw [← hm1]; rfl
  refine turns_list (n := sn) (vs := svs) rfl F1 N1 (.tail _ (.tail _ (.tail _ (.tail _ hs1)))) (LTJ w news L l oJ W ts m1) ?_ ?_ ?_ ?_
  · refine ⟨rfl, [], #[], [], [], 0, oT, rfl, fun q hq => ?_, fun q hq => ?_, fun q hq => ?_, h88n, .inl rfl, ⟨_, dT⟩, .nil, rfl, List.Pairwise.nil, fun t ht => (nomatch ht), rfl⟩
    · exact Nat.ne_of_lt (l1 q (.tail _ (.tail _ (.tail _ hq))))
    · exact Nat.ne_of_lt (Nat.lt_succ_of_lt (Nat.lt_succ_of_lt (hnL q hq)))
    · exact Nat.ne_of_lt (Nat.lt_succ_of_lt (hnL q hq))
  · rintro i m nx ⟨_, R, ps, row, vs, k, oT, rfl, _⟩
    exact .tail _ (.tail _ (.tail _ (.tail _ (List.mem_append_right _ hs1))))
  · rintro i v m nx h tk I oI hv ⟨rfl, R, ps, row, vs, k, oT', rfl, f1, f2, f3, f4, ht, ⟨o, ho⟩, hr1, hr2, hr3, hr4, hr5⟩ hoff hlt F' N'
    clear F1 N1 dT
    replace F' : Fr g L h _ := F'
    replace N' : News g L h _ := N'
    have i1 : @Ne Nat I l := fun e => hoff _ (.head _) e.symm
    have i2 : @Ne Nat I (L + 1 + 1) := fun e => hoff _ (.tail _ (.head _)) e.symm
    have i3 : @Ne Nat I (L + 1) := fun e => hoff _ (.tail _ (.tail _ (.head _))) e.symm
    have i4 : @Ne Nat I 88 := fun e => hoff _ (.tail _ (.tail _ (.tail _ (.head _)))) e.symm
    k_steps
    rename_i h2' oT2 F2 N2 d2
    refine kla_eval rfl ?_
    refine lam_uni (pre := [(I, oI), (l, listOf vs.toArray k), (L + 1 + 1, oT2), (L + 1, oJ)]) (R := R ++ news) (P := 88) (c := 92) F2 N2 ?_ f4 T C rfl rfl ht ?_
    · intro q hq
      rcases List.mem_cons.mp hq with rfl | hq
      · exact i4
      rcases List.mem_cons.mp hq with rfl | hq
      · exact (Nat.ne_of_gt (Nat.lt_trans h88 (Nat.lt_of_succ_lt (Nat.lt_of_succ_lt hlL))))
      rcases List.mem_cons.mp hq with rfl | hq
      · exact (Nat.ne_of_gt (Nat.lt_succ_of_lt (Nat.lt_succ_of_lt h88)))
      rw [List.mem_singleton.mp hq]
      exact (Nat.ne_of_gt (Nat.lt_succ_of_lt h88))
    intro f c' oc ovs t ctv h3 tk3 R' F3 N3 hc1 hc2 hc3 hR' hf
    clear F2 N2
    generalize hps : (#[rawInt _, rawInt _, Value.ref c'] : Array Value) = ps' at N3
    simp only [List.cons_append, List.nil_append] at N3 hR' hf
    have g1 : ∀ q ∈ R' ++ (R ++ news), q.1 ≠ l := fun q hq => (List.mem_append.mp hq).elim (fun h => Nat.ne_of_gt (hR' q h _ (.tail _ (.head _)))) (f1 q)
    have g2 : ∀ q ∈ R' ++ (R ++ news), q.1 ≠ L + 1 + 1 := fun q hq => (List.mem_append.mp hq).elim (fun h => Nat.ne_of_gt (hR' q h _ (.tail _ (.tail _ (.head _))))) (f2 q)
    have g3 : ∀ q ∈ R' ++ (R ++ news), q.1 ≠ L + 1 := fun q hq => (List.mem_append.mp hq).elim (fun h => Nat.ne_of_gt (hR' q h _ (.tail _ (.tail _ (.tail _ (.head _)))))) (f3 q)
    have g4 : ∀ q ∈ R' ++ (R ++ news), q.1 ≠ 88 := fun q hq => (List.mem_append.mp hq).elim (fun h => Nat.ne_of_gt (hR' q h _ (.tail _ (.tail _ (.tail _ (.tail _ (.head _))))))) (f4 q)
    have g5 : ∀ q ∈ R' ++ (R ++ news), q.1 ≠ I := fun q hq => (List.mem_append.mp hq).elim (fun h => Nat.ne_of_gt (hR' q h _ (.head _))) fun h => hoff q (.tail _ (.tail _ (.tail _ (.tail _ h))))
    have hfl : @LT.lt Nat _ l f := hf _ (.tail _ (.head _))
    have hfI : @LT.lt Nat _ I f := hf _ (.head _)
    have hn2 : ∀ q ∈ news, q ∈ R' ++ (R ++ news) := fun q hq => List.mem_append_right _ (List.mem_append_right _ hq)
    have hRR : ∀ q, q ∈ R' ++ (R ++ news) ↔ q ∈ (R' ++ R) ++ news := fun q => by rw [List.append_assoc]
    generalize hR2 : R' ++ (R ++ news) = R2 at *
    obtain ⟨e, hes, hTe⟩ := hs2.get hv
    have hem : e ∈ ts := List.mem_of_getElem? hes
    obtain ⟨kk, hk1, hk2, hk3, hk4⟩ := cut_exists W e row hr3
    have hvl := hr1.length
    have hi : i < ts.length := (List.getElem?_eq_some_iff.mp hes).1
    k_steps
    refine Con.use (bisect_con (rl := l) (fk := f) (vs := vs) (keys := row.map fun b => cmpK ks b e) (k := kk) (.tail _ (.tail _ (.head _))) (.head _) (by omega) (by simp [hvl]) ?_ ?_ (by omega)) B F3 X N3 T (dpK hd (by decide)) (dpK hu (by decide)) ?_
    · intro j x c hx hc
      obtain ⟨b', hb', hTb⟩ := hr1.get hx
      rw [List.getElem?_map, hb'] at hc
      obtain rfl : cmpK ks b' e = c := Option.some.inj hc
      clear F3 N3
      have hj2 := hj.mono hn2
      have hT2 := hTe.mono hn2
      have hT3 := hTb.mono hn2
      clear B X T
      intro dp un gd cn cs a ccd cl outer A₀ base h₀ L2 m2 s2 Q2 E2 B F X N T hkc hd hu hret
      refine wpAny_call ?_
      refine kla_code (binds := [(Str.ofString "kept", x)]) B F X N T rfl rfl hkc (.head _) (codeRec_news N (.tail _ (.tail _ (.tail _ (.tail _ (.tail _ (.tail _ hc1)))))) hc2 hc3) (Nat.lt_of_le_of_lt (Nat.le_add_right dp 30) hd) rfl (locs rfl) ?_ rfl rfl rfl (by decide)
      intro g' L' h₁ FG F' N' B' X' T'
      have hT4 := hj2
      obtain ⟨j', dj, lk, hss, tks, rfl, j1, j2, j3⟩ := hj2
      k_steps
      refine Con.use (dp := dp + 1) (un := un + 3) (compare_con (ks := ks) (a := b') (b := e) ?cj hk ?cl ?cr) B' F' X' N' T' (by omega) (by omega) ?_
      case cj => exact hT4.mono fun q hq => .tail _ (.tail _ (.tail _ (.tail _ (.tail _ (.tail _ hq)))))
      case cl => exact hT3.mono fun q hq => .tail _ (.tail _ (.tail _ (.tail _ (.tail _ (.tail _ hq)))))
      case cr => exact hT2.mono fun q hq => .tail _ (.tail _ (.tail _ (.tail _ (.tail _ (.tail _ hq)))))
      rintro r add h5 tk5 F5 N5 U ⟨tc, rfl⟩
      exact leaveK_ F5 N5 fun kF kN => hret _ add _ _ kF kN U ⟨tc, rfl⟩
    · intro j c hc
      rw [List.getElem?_map] at hc
      cases hb' : row[j]? with
      | none => rw [hb'] at hc; cases hc
      | some b' =>
        rw [hb'] at hc
        obtain rfl : cmpK ks b' e = c := Option.some.inj hc
        rw [hW b' (hr4 b' (List.mem_of_getElem? hb')) e hem]
        exact hk2 j b' hb'
    rintro r add h4 tk4 F4 N4 U4 ⟨tb, rfl⟩
    replace N4 : News g L h4 ((I, oI) :: (l, listOf vs.toArray k) :: (L + 1 + 1, oT2) :: (L + 1, oJ) :: (88, tabObj ps') :: R2) := News.sub N4 fun q hq => List.mem_append_right _ (.tail _ hq)
    clear F3 N3
    k_steps
    have hkv : kl_ins vs (kk : Int) v = vs.take kk ++ v :: vs.drop kk := by
      unfold kl_ins
      rw [if_neg (by omega), Int.toNat_natCast, Nat.min_eq_left (by omega)]
    refine kl_insert F4 N4 (fitsIndex_of (Int.natCast_nonneg _) (by omega)) hkv (.tail i1 (.head ?_)) (by simp [sizeLine_eq]; omega) fun h5 F5 N5 => ?_
    · intro q hq
      rcases List.mem_cons.mp hq with rfl | hq
      · exact Nat.ne_of_lt hlL
      rcases List.mem_cons.mp hq with rfl | hq
      · exact Nat.ne_of_lt (Nat.lt_of_succ_lt hlL)
      rcases List.mem_cons.mp hq with rfl | hq
      · exact Nat.ne_of_lt (Nat.lt_trans h88 (Nat.lt_of_succ_lt (Nat.lt_of_succ_lt hlL)))
      · exact g1 q hq
    clear F4 N4
    k_steps
    have hRe : R2 = (R' ++ R) ++ news := by rw [← hR2, List.append_assoc]
    subst hRe
    refine ⟨_, _, _, _, rfl, F5, N5, fun q hq he => ?_, rfl, R' ++ R, ps', row.take kk ++ e :: row.drop kk, _, _, oT2, rfl, g1, g2, g3, g4, ?_, ⟨_, d2⟩, ?_, ?_, hk3, ?_, ?_⟩
    · rw [List.mem_singleton] at he
      rcases List.mem_cons.mp hq with rfl | hq
      · exact i1 he.symm
      rcases List.mem_cons.mp hq with rfl | hq
      · exact i2 he.symm
      rcases List.mem_cons.mp hq with rfl | hq
      · exact i3 he.symm
      rcases List.mem_cons.mp hq with rfl | hq
      · exact i4 he.symm
      · exact g5 q hq he
    · exact .inr ⟨c', oc, ovs, t, hps.symm, hc1, hc2, hc3⟩
    · exact (hr1.take kk).append (.cons hTe (hr1.drop kk))
    · simp [hr2]; omega
    · intro t ht
      rcases List.mem_append.mp ht with q | q
      · exact hr4 t (List.mem_of_mem_take q)
      · rcases List.mem_cons.mp q with rfl | q
        · exact hem
        · exact hr4 t (List.mem_of_mem_drop q)
    · rw [hk4, hr5, take_at hes, List.foldl_append]; rfl
  · rintro h tk m nx ⟨rfl, R, ps, row, vs, k, oT', rfl, f1, f2, f3, f4, ht, ⟨o, ho⟩, hr1, hr2, hr3, hr4, hr5⟩ F' N'
    clear F1 N1
    replace F' : Fr g L h _ := F'
    replace N' : News g L h _ := N'
    rw [hs2.length, List.take_length, hb] at hr5
    have hvl := hr1.length
    have hrl : row[row.length - 1]? = some b := by rw [← List.getLast?_eq_getElem?]; exact hr5
    obtain ⟨x, hx, a, d, t0, t1, t2, t3, nn, rfl, ha, _⟩ := hr1.get' hrl
    have hpos : 0 < row.length := by
      cases row with
      | nil => cases hr5
      | cons _ _ => exact Nat.succ_pos _
    have ha2 : (a, tupO [.int b.x t0, .int b.y t1, .int b.z t2, .int b.n t3, .ref d] nn) ∈ R ++ news := List.mem_append_right _ ha
    k_steps
    refine item_neg N' (.head _) (by decide) (by omega) (by decide) (x := .ref a) (by rw [show ((-1 : Int) + (vs.length : Int)).toNat = row.length - 1 by omega]; exact hx) ?_
    k_steps
    dsimp only
    exact ⟨_, _, _, _, rfl, F', N', ⟨ps, .tail _ (.tail _ (.tail _ (.head _)))⟩, fun q hq => .tail _ (.tail _ (.tail _ (.tail _ (List.mem_append_right _ hq)))), _, rfl⟩
end Mine
end
section
open PySem PySem.W PyProof.Rows PyProof.Rows.LCg
set_option Elab.async false
namespace Mine
set_option maxRecDepth 100000
section
variable {prog : Program} {w : World} {A : Around} {E : Value → Shared → Prop} {s : Shared} {h₀ : Heap} {L : Addr} {m : Str → Option Value} {env : Env}
abbrev testsOf (cenv : Env) (ifs : List PySem.Expr) : Sem Bool := forIn ifs true fun c r => if r = true then do let ok ← isTrue c cenv (eval c cenv); pure (ForInStep.yield ok) else pure (ForInStep.yield r)
theorem compLoop_gen {elt target iter : PySem.Expr} {ifs : List PySem.Expr} {scope : Scope} {pos : Pos} {it acc : Value} {env : Env} {R : Result → Shared → Prop} (I : Nat → Shared → Prop)
    (turn : ∀ n s, I n s → wpAny (model prog w) A (pyNext it) (fun r s₁ => match r with
      | none => R (.ok .next) s₁
      | some v => wpAny (model prog w) A (letOwnedTupleGo target it v) (fun _ s₁' => wpAny (model prog w) A (assign target env v) (fun _ s₂ =>
          wpAny (model prog w) A (testsOf env ifs) (fun ok s₃ =>
            if ok = true then wpAny (model prog w) A (eval elt env) (fun x s₄ =>
              wpAny (model prog w) A (call (.builtin "list.append") [acc, x]) (fun _ s₅ => ∃ m, m < n ∧ I m s₅) (notedBy (model prog w) A env fun e s' => R (.error e) s') s₄) (notedBy (model prog w) A env fun e s' => R (.error e) s') s₃
            else ∃ m, m < n ∧ I m s₃) (notedBy (model prog w) A env fun e s' => R (.error e) s') s₂) (notedBy (model prog w) A env fun e s' => R (.error e) s') s₁') (notedBy (model prog w) A env fun e s' => R (.error e) s') s₁) (notedBy (model prog w) A env fun e s' => R (.error e) s') s)
    (n : Nat) (h : I n s) :
    codeAny (model prog w) A (.compLoop (.ListComp elt [⟨target, iter, ifs, 0⟩] scope pos) 0 it acc env) R s := by
  refine codeAny_loop rfl I (fun n s hI => ?_) n h
  show wpAny _ A ((compTurn (.ListComp elt [⟨target, iter, ifs, 0⟩] scope pos) 0 it acc env).onRaise (fun x => do noteFrame x env; theTreesLotGoes x)) _ _ s
  refine wpAny_noted ?_
  rw [compTurn_list]
  refine wpAny_bind (wpAny_standAt (wpAny_bind (wpAny_mono (turn n s hI) (fun r s₁ h₁ => ?_) fun _ _ h' => h')))
  cases r with
  | none => exact wpAny_pure h₁
  | some v =>
    refine wpAny_bind (wpAny_mono h₁ (fun _ s₁' h₁' => ?_) fun _ _ h' => h')
    refine wpAny_bind (wpAny_mono h₁' (fun _ s₂ h₂ => wpAny_bind (wpAny_mono h₂ (fun ok s₃ h₃ => ?_) fun _ _ h' => h')) fun _ _ h' => h')
    cases ok with
    | false => exact wpAny_pure ⟨rfl, h₃⟩
    | true =>
      exact wpAny_bind (wpAny_bind (wpAny_mono h₃ (fun x s₄ h₄ => wpAny_bind (wpAny_mono h₄ (fun _ s₅ h₅ => wpAny_pure (wpAny_pure ⟨rfl, h₅⟩)) fun _ _ h' => h')) fun _ _ h' => h'))
/-- what lies apart from the comprehension's own -/
def Off (wr : List Addr) (D : Addr) (adr : List Addr) (nx : Ledger) : Prop := ∀ p ∈ nx, p.1 ∉ wr ∧ p.1 ≠ D ∧ p.1 ∉ adr
inductive BxA (C : Addr) (bx : Ledger) : Prop
  | mk (oC : Obj) (m₂ : Str → Option Value) (q1 : bx = [(C, oC)]) (q2 : NsObj oC m₂) : BxA C bx
inductive BxB (C c : Addr) (bx : Ledger) : Prop
  | mk (oC : Obj) (m₂ : Str → Option Value) (o : Obj) (u : Option Value) (q1 : bx = [(C, oC), (c, o)]) (q2 : NsObj oC m₂) (q3 : o.data = .cell u) : BxB C c bx
/-- an element's end -/
inductive CEnd (h₀ : Heap) (L : Addr) (m : Str → Option Value) (wr : List Addr) (D : Addr) (adr : List Addr) (ys : List Value) (Bx : Ledger → Prop) (its : Ledger) (J : Ledger → Prop) (s₁ s₂ : Shared) : Prop
  | mk (h' : Heap) (tk : Nat) (bx : Ledger) (nx : Ledger) (q1 : s₂ = { s₁ with heap := h', toks := tk }) (q2 : Fr h₀ L h' m) (q3 : News h₀ L h' (bx ++ (D, lst ys) :: (its ++ nx))) (q4 : Off wr D adr nx) (q5 : Bx bx) (q6 : J nx) : CEnd h₀ L m wr D adr ys Bx its J s₁ s₂
inductive CFin (s : Shared) (St : Heap → Prop) (h₀ : Heap) (L : Addr) (m : Str → Option Value) (D : Addr) (wr adr : List Addr) (ys : List Value) (Bx : Ledger → Prop) (J : Ledger → Prop) (s' : Shared) : Prop
  | mk (h' : Heap) (tk : Nat) (bx nx : Ledger) (q1 : s' = { s with heap := h', toks := tk }) (q4 : St h') (q5 : Fr h₀ L h' m) (q6 : News h₀ L h' (bx ++ (D, lst ys) :: nx)) (q7 : Off wr D adr nx) (q8 : Bx bx) (q9 : J nx) : CFin s St h₀ L m D wr adr ys Bx J s'
inductive CLoop (s : Shared) (n : Nat) (St : Nat → Heap → Prop) (h₀ : Heap) (L : Addr) (m : Str → Option Value) (D : Addr) (wr adr : List Addr) (Bx : Ledger → Prop) (J : Nat → List Value → Ledger → Prop) (k : Nat) (s' : Shared) : Prop
  | mk (h' : Heap) (tk i : Nat) (ys : List Value) (nx bx : Ledger) (q1 : s' = { s with heap := h', toks := tk }) (q2 : i ≤ n) (q3 : k = n + 1 - i) (q4 : St i h') (q5 : Fr h₀ L h' m) (q6 : News h₀ L h' (bx ++ (D, lst ys) :: nx)) (q7 : Off wr D adr nx) (q8 : Bx bx) (q9 : J i ys nx) : CLoop s n St h₀ L m D wr adr Bx J k s'
theorem comp_core {elt target iter : PySem.Expr} {ifs : List PySem.Expr} {scope : Scope} {pos : Pos} {cenv : Env} {R : Result → Shared → Prop} {I D : Addr} {fp wr adr : List Addr} {n : Nat} {P Md : Nat → Value → Heap → Prop} {St : Nat → Heap → Prop} {keep news bx₀ : Ledger} {hp : Heap} {tk0 : Nat}
    (W : KTurns prog w A target I fp wr n P Md St) (hsz : n ≤ sizeLine) (hwr : ∀ b ∈ wr, h₀.get? b = none) (hfp : ∀ b ∈ fp, b ∈ wr ∨ (∃ o, (b, o) ∈ keep) ∨ ∃ o, h₀.get? b = some o)
    (hIo : ∀ i h, St i h → ∀ b ∈ wr, ∃ o, h.get? b = some o) (hLw : L ∉ wr) (hDw : D ∉ wr) (hadr : ∀ b ∈ adr, b ∉ wr ∧ b ≠ D) (hDL : D ≠ L) (hD0 : h₀.get? D = none)
    (Bx : Ledger → Prop) (hBx : ∀ bx, Bx bx → bx.map (·.1) = adr)
    (J : Nat → List Value → Ledger → Prop) (hJk : ∀ i ys nx, J i ys nx → ∀ p ∈ keep, p ∈ nx) (hJl : ∀ i ys nx, J i ys nx → ys.length ≤ i)
    (turn : ∀ i v ys nx bx h tk its, i < n → P i v h → J i ys nx → Bx bx → Off wr D adr nx → (∀ p ∈ its, p.1 ∈ wr) → (∀ b ∈ wr, ∃ o, (b, o) ∈ its) → Fr h₀ L h m → News h₀ L h (bx ++ (D, lst ys) :: (its ++ nx)) →
      wpAny (model prog w) A (assign target cenv v) (fun _ s₂ => wpAny (model prog w) A (testsOf cenv ifs) (fun ok s₃ =>
        if ok = true then wpAny (model prog w) A (eval elt cenv) (fun y s₄ => CEnd h₀ L m wr D adr ys Bx its (J (i + 1) (ys ++ [y])) { s with heap := h, toks := tk } s₄) (fun _ _ => False) s₃
        else CEnd h₀ L m wr D adr ys Bx its (J (i + 1) ys) { s with heap := h, toks := tk } s₃) (fun _ _ => False) s₂) (fun _ _ => False) { s with heap := h, toks := tk })
    (h0 : J 0 [] news) (hb0 : Bx bx₀) (hoff : Off wr D adr news) (hst : St 0 hp) (F : Fr h₀ L hp m) (N : News h₀ L hp (bx₀ ++ (D, lst []) :: news))
    (done : ∀ h tk ys nx bx, J n ys nx → Bx bx → Off wr D adr nx → Fr h₀ L h m → News h₀ L h (bx ++ (D, lst ys) :: nx) → R (.ok .next) { s with heap := h, toks := tk }) :
    codeAny (model prog w) A (.compLoop (.ListComp elt [⟨target, iter, ifs, 0⟩] scope pos) 0 (.ref I) (.ref D) cenv) R { s with heap := hp, toks := tk0 } := by
  refine compLoop_gen
    (CLoop s n St h₀ L m D wr adr Bx J) ?_ (n + 1)
    ⟨hp, tk0, 0, [], news, bx₀, rfl, Nat.zero_le _, rfl, hst, F, N, hoff, hb0, h0⟩
  rintro k s' ⟨h', tk, i, ys, nx, bx, rfl, hi, rfl, hst', F', N', hoff', hb', hJ⟩
  have offAll : ∀ p ∈ bx ++ (D, lst ys) :: nx, p.1 ∉ wr := fun p hp => by
    rcases List.mem_append.mp hp with hp | hp
    · exact (hadr p.1 (by rw [← hBx bx hb']; exact List.mem_map.mpr ⟨p, hp, rfl⟩)).1
    · rcases List.mem_cons.mp hp with rfl | hp
      · exact hDw
      · exact (hoff' p hp).1
  have next : ∀ h₁ : Heap, (∀ b o, b ∉ wr → h'.get? b = some o → h₁.get? b = some o) → Fr h₀ L h₁ m ∧ News h₀ L h₁ (bx ++ (D, lst ys) :: nx) := fun h₁ hk₁ =>
    ⟨⟨F'.ns.at' fun o e => hk₁ _ o hLw e, fun b o e => hk₁ b o (fun hb => by rw [hwr b hb] at e; cases e) (F'.keep b o e), F'.above⟩, fun p hp => ⟨hk₁ _ _ (offAll p hp) (N' p hp).1, (N' p hp).2⟩⟩
  by_cases hlt : i < n
  · refine W.item i _ _ _ hlt hst' fun v h₁ tk₁ hMd hk₁ => ?_
    refine W.go i v _ _ _ hMd fun h₂ hP hst₂ hk₂ => ?_
    obtain ⟨F₂, N₂⟩ := next h₂ fun b o hb x => hk₂ b o hb (hk₁ b o hb x)
    let its : Ledger := wr.filterMap fun b => (h₂.get? b).map fun o => (b, o)
    have hits : ∀ p ∈ its, p.1 ∈ wr ∧ h₂.get? p.1 = some p.2 := fun p hp => by
      obtain ⟨b, hb, e⟩ := List.mem_filterMap.mp hp
      cases e2 : h₂.get? b with
      | none => rw [e2] at e; cases e
      | some o => rw [e2] at e; obtain rfl := Option.some.inj e; exact ⟨hb, e2⟩
    have hcov : ∀ b ∈ wr, ∀ o, h₂.get? b = some o → (b, o) ∈ its := fun b hb o e => List.mem_filterMap.mpr ⟨b, hb, by rw [e]; rfl⟩
    have N₂' : News h₀ L h₂ (bx ++ (D, lst ys) :: (its ++ nx)) := fun p hp => by
      rcases List.mem_append.mp hp with hp | hp
      · exact N₂ p (List.mem_append_left _ hp)
      · rcases List.mem_cons.mp hp with rfl | hp
        · exact N₂ _ (List.mem_append_right _ (.head _))
        · rcases List.mem_append.mp hp with hp | hp
          · exact ⟨(hits p hp).2, fun e => hLw (e ▸ (hits p hp).1), hwr _ (hits p hp).1⟩
          · exact N₂ p (List.mem_append_right _ (.tail _ hp))
    have fin : ∀ ys' s₃, CEnd h₀ L m wr D adr ys Bx its (J (i + 1) ys') { s with heap := h₂, toks := tk₁ } s₃ → CFin s (St (i + 1)) h₀ L m D wr adr ys Bx (J (i + 1) ys') s₃ := by
      rintro ys' s₃ ⟨h₃, tk₃, bx₃, nx₃, rfl, F₃, N₃, ho₃, hb₃, hJ₃⟩
      refine ⟨h₃, tk₃, bx₃, nx₃, rfl, W.frame _ _ _ hst₂ fun b hb o e => ?_, F₃, fun p hp => ?_, ho₃, hb₃, hJ₃⟩
      · rcases hfp b hb with hw | ⟨o', ho'⟩ | ⟨o', ho'⟩
        · exact (N₃ _ (List.mem_append_right _ (.tail _ (List.mem_append_left _ (hcov b hw o e))))).1
        · have q := (N₂ _ (List.mem_append_right _ (.tail _ (hJk _ _ _ hJ _ ho')))).1
          rw [e] at q
          rw [Option.some.inj q]
          exact (N₃ _ (List.mem_append_right _ (.tail _ (List.mem_append_right _ (hJk _ _ _ hJ₃ _ ho'))))).1
        · have q := F₂.keep b o' ho'
          rw [e] at q
          rw [Option.some.inj q]
          exact F₃.keep b o' ho'
      · rcases List.mem_append.mp hp with hp | hp
        · exact N₃ p (List.mem_append_left _ hp)
        · rcases List.mem_cons.mp hp with rfl | hp
          · exact N₃ _ (List.mem_append_right _ (.head _))
          · exact N₃ p (List.mem_append_right _ (.tail _ (List.mem_append_right _ hp)))
    refine wpAny_mono (turn i v ys nx bx h₂ tk₁ its hlt hP hJ hb' hoff' (fun p hp => (hits p hp).1) (fun b hb => by obtain ⟨o, e⟩ := hIo _ _ hst₂ b hb; exact ⟨o, hcov b hb o e⟩) F₂ N₂') (fun _ s₂ h₂' => wpAny_mono h₂' (fun ok s₃ h₃ => ?_) fun _ _ e => e.elim) fun _ _ e => e.elim
    cases ok with
    | false =>
      simp only [Bool.false_eq_true, if_false] at h₃ ⊢
      obtain ⟨hx, tk₃, bx₃, nx₃, rfl, hst₃, F₃, N₃, ho₃, hb₃, hJ₃⟩ := fin _ _ h₃
      exact ⟨n + 1 - (i + 1), by omega, hx, tk₃, i + 1, ys, nx₃, bx₃, rfl, hlt, rfl, hst₃, F₃, N₃, ho₃, hb₃, hJ₃⟩
    | true =>
      simp only [if_true] at h₃ ⊢
      refine wpAny_mono h₃ (fun y s₄ h₄ => ?_) fun _ _ e => e.elim
      obtain ⟨h₄, tk₄, bx₄, nx₄, rfl, hst₄, F₄, N₄, ho₄, hb₄, hJ₄⟩ := fin _ _ h₄
      have zD := (N₄ _ (List.mem_append_right _ (.head _))).1
      refine append_at (hsz := by show ys.toArray.size ≤ sizeLine; rw [List.size_toArray]; exact Nat.le_trans (hJl _ _ _ hJ) (Nat.le_trans hi hsz)) zD fun h₅ hs₅ hD₅ => ?_
      refine ⟨n + 1 - (i + 1), by omega, h₅, tk₄, i + 1, ys ++ [y], nx₄, bx₄, rfl, hlt, rfl, W.frame _ _ _ hst₄ fun b hb o e => hs₅.extBut b o (fun q => ?_) e, F₄.change hs₅ hDL hD0, fun p hp => ?_, ho₄, hb₄, hJ₄⟩
      · subst q
        rcases hfp _ hb with hw | ⟨o', ho'⟩ | ⟨o', ho'⟩
        · exact hDw hw
        · exact (ho₄ _ (hJk _ _ _ hJ₄ _ ho')).2.1 rfl
        · rw [hD0] at ho'; cases ho'
      · rcases List.mem_append.mp hp with hp | hp
        · have q := N₄ p (List.mem_append_left _ hp)
          exact ⟨hs₅.extBut _ _ (hadr p.1 (by rw [← hBx bx₄ hb₄]; exact List.mem_map.mpr ⟨p, hp, rfl⟩)).2 q.1, q.2⟩
        · rcases List.mem_cons.mp hp with rfl | hp
          · exact ⟨hD₅.trans (congrArg some (lst_snoc ys y)), hDL, hD0⟩
          · have q := N₄ p (List.mem_append_right _ (.tail _ hp))
            exact ⟨hs₅.extBut _ _ (ho₄ p hp).2.1 q.1, q.2⟩
  · have hin : i = n := by omega
    subst hin
    refine W.done _ _ _ hst' fun h₁ tk₁ hk₁ => ?_
    obtain ⟨F₁, N₁⟩ := next h₁ hk₁
    exact done h₁ tk₁ ys nx bx hJ hb' hoff' F₁ N₁
end
end Mine
end
section
open PySem PySem.W PyProof.Rows PyProof.Rows.LCg
set_option Elab.async false
namespace Mine
set_option maxRecDepth 100000
section
variable {prog : Program} {w : World} {A : Around} {E : Value → Shared → Prop} {s : Shared} {h₀ : Heap} {L : Addr} {m : Str → Option Value} {env : Env}
theorem newEnv_cl {M : Model} {scope : Scope} {globals : Addr} {cl : List (Str × Addr)} {qual : Str} {Q : Env → Shared → Prop}
    (hQ : Q { scope, locals := s.heap.objs.size, globals, cells := cellsFrom (s.heap.objs.size + 1) scope.names cl, qual, func := none, code := env.code, frame := env.frame, builtins := env.builtins } { s with heap := pushCells (s.heap.push { cls := .type "dict", data := .dict #[] }) scope.names }) :
    wpAny M A (newFunctionEnv scope globals cl [] qual none .none (some env)) Q E s := by
  simp only [newFunctionEnv, Option.isSome_some, if_true]
  refine wpAny_bind (wpAny_alloc ?_)
  refine wpAny_bind (wpAny_layCells _ (fun name kind cells => by cases hkc : kind == NameKind.cell <;> simp [hkc]) _ _ _ _ ?_)
  rw [show ({ s with heap := s.heap.push { cls := .type "dict", data := .dict #[] } } : Shared).heap.objs.size = s.heap.objs.size + 1 from Heap.size_push ..]
  refine wpAny_bind ?_
  rw [List.forIn_nil]
  exact wpAny_pure (wpAny_pure hQ)
theorem cells_none : ∀ {names : List (Str × NameKind)}, (∀ y ∈ names, y.2 ≠ .cell) → ∀ (k : Nat) (acc : List (Str × Addr)) (h : Heap), cellsFrom k names acc = acc ∧ pushCells h names = h
  | [], _, _, _, _ => ⟨rfl, rfl⟩
  | (n, kd) :: r, hc, k, acc, h => by
    have hk : (kd == NameKind.cell) = false := by simpa using hc (n, kd) (.head _)
    obtain ⟨e1, e2⟩ := cells_none (names := r) (fun y hy => hc y (.tail _ hy)) k acc h
    unfold cellsFrom pushCells
    simp only [hk, Bool.false_eq_true, if_false]
    exact ⟨e1, e2⟩
theorem cells_one {x : Str} : ∀ {names : List (Str × NameKind)}, names.filter (fun y => y.2 == .cell) = [(x, .cell)] → ∀ (k : Nat) (acc : List (Str × Addr)) (h : Heap), h.objs.size = k → cellsFrom k names acc = (x, k) :: acc ∧ pushCells h names = h.push { cls := .type "cell", data := .cell none }
  | [], hc, _, _, _, _ => by simp at hc
  | (n, kd) :: r, hc, k, acc, h, hs => by
    cases hk : (kd == NameKind.cell) with
    | true =>
      rw [List.filter_cons_of_pos (by simpa using hk)] at hc
      obtain ⟨hx, hr⟩ := List.cons.inj hc
      have hr' : ∀ y ∈ r, y.2 ≠ .cell := fun y hy e => by
        have : y ∈ r.filter (fun y => y.2 == .cell) := List.mem_filter.mpr ⟨hy, by rw [e]; rfl⟩
        rw [hr] at this
        cases this
      obtain ⟨e1, e2⟩ := cells_none hr' (k + 1) ((n, k) :: acc) (h.push { cls := .type "cell", data := .cell none })
      unfold cellsFrom pushCells
      simp only [hk, if_true]
      have hn : n = x := congrArg Prod.fst hx
      subst hn
      exact ⟨e1, e2⟩
    | false =>
      rw [List.filter_cons_of_neg (by simpa using hk)] at hc
      obtain ⟨e1, e2⟩ := cells_one hc k acc h hs
      unfold cellsFrom pushCells
      simp only [hk, Bool.false_eq_true, if_false]
      exact ⟨e1, e2⟩
/-- the comprehension's block, its scope without cells -/
theorem block_A {elt target iter : PySem.Expr} {ifs : List PySem.Expr} {scope : Scope} {cl : List (Str × Addr)} {pos : Pos} {I : Addr} {fp wr : List Addr} {n : Nat} {P Md : Nat → Value → Heap → Prop} {St : Nat → Heap → Prop} {keep news : Ledger} {RR : Value → Addr → Result → Shared → Prop}
    (W : KTurns prog w A target I fp wr n P Md St) (hsz : n ≤ sizeLine) (hwr : ∀ b ∈ wr, h₀.get? b = none) (hfp : ∀ b ∈ fp, b ∈ wr ∨ (∃ o, (b, o) ∈ keep) ∨ ∃ o, h₀.get? b = some o)
    (hIo : ∀ i h, St i h → ∀ b ∈ wr, ∃ o, h.get? b = some o) (hself : ∀ (s : Shared) (Q : Value → Shared → Prop) (E : Value → Shared → Prop), St 0 s.heap → Q (.ref I) s → wpAny (model prog w) A (pyIter (.ref I)) Q E s)
    (hLw : L ∉ wr) (hwlt : ∀ b ∈ wr, b < s.heap.objs.size) (hst : St 0 s.heap) (F : Fr h₀ L s.heap m) (N : News h₀ L s.heap news) (hnw : ∀ p ∈ news, p.1 ∉ wr)
    (hcell : ∀ y ∈ scope.names, y.2 ≠ .cell)
    (J : Nat → List Value → Ledger → Prop) (hJk : ∀ i ys nx, J i ys nx → ∀ p ∈ keep, p ∈ nx) (hJl : ∀ i ys nx, J i ys nx → ys.length ≤ i) (h0 : J 0 [] news)
    (turn : ∀ i v ys nx h tk its C D oC m₂, i < n → P i v h → J i ys nx → NsObj oC m₂ → (∀ p ∈ (D, lst ys) :: (its ++ nx), p.1 ≠ C) → (∀ p ∈ its ++ nx, p.1 ≠ D) → (∀ p ∈ its, p.1 ∈ wr) → (∀ b ∈ wr, ∃ o, (b, o) ∈ its) → (∀ p ∈ nx, p.1 ∉ wr) → (∀ p ∈ news, p.1 < D) → (∀ p ∈ news, p.1 < C) →
      Fr h₀ L h m → News h₀ L h ((C, oC) :: (D, lst ys) :: (its ++ nx)) →
      wpAny (model prog w) A (assign target (compEnvC scope cl C env) v) (fun _ s₂ => wpAny (model prog w) A (testsOf (compEnvC scope cl C env) ifs) (fun ok s₃ =>
        if ok = true then wpAny (model prog w) A (eval elt (compEnvC scope cl C env)) (fun y s₄ => CEnd h₀ L m wr D [C] ys (BxA C) its (J (i + 1) (ys ++ [y])) { s with heap := h, toks := tk } s₄) (fun _ _ => False) s₃
        else CEnd h₀ L m wr D [C] ys (BxA C) its (J (i + 1) ys) { s with heap := h, toks := tk } s₃) (fun _ _ => False) s₂) (fun _ _ => False) { s with heap := h, toks := tk })
    (done : ∀ D C h tk ys nx oC m', J n ys nx → NsObj oC m' → (∀ p ∈ (D, lst ys) :: nx, p.1 ≠ C) → (∀ p ∈ nx, p.1 ≠ D) → (∀ p ∈ news, p.1 < D) → h₀.get? C = none → C ≠ L → Fr h₀ L h m → News h₀ L h ((C, oC) :: (D, lst ys) :: nx) → RR (.ref D) C (.ok .next) { s with heap := h, toks := tk }) :
    wpAny (model prog w) A (newList []) (fun acc s₃ => wpAny (model prog w) A (newFunctionEnv scope env.globals cl [] env.qual none .none (some env)) (fun cenv s₄ =>
      codeAny (model prog w) A (.compStart (.ListComp elt [⟨target, iter, ifs, 0⟩] scope pos) 0 (.ref I) acc { cenv with scope := relabel scope env }) (RR acc cenv.locals) s₄) E s₃) E s := by
  refine wpAny_newObj_type (newEnv_cl ?_)
  obtain ⟨e1, e2⟩ := cells_none hcell ((s.heap.push { cls := .type "list", dict := none, data := .seq ([] : List Value).toArray }).objs.size + 1) cl ((s.heap.push { cls := .type "list", dict := none, data := .seq ([] : List Value).toArray }).push { cls := .type "dict", data := .dict #[] })
  dsimp only
  rw [e1, e2]
  have hC : (s.heap.push { cls := .type "list", dict := none, data := .seq ([] : List Value).toArray }).objs.size = s.heap.objs.size + 1 := Heap.size_push ..
  have up : ∀ b o, s.heap.get? b = some o → ((s.heap.push { cls := .type "list", dict := none, data := .seq ([] : List Value).toArray }).push { cls := .type "dict", data := .dict #[] }).get? b = some o := fun b o e => Heap.get?_push_of_some _ (Heap.get?_push_of_some _ e)
  have hLlt : L < s.heap.objs.size := F.ns.lt
  have fresh₀ : ∀ a, s.heap.objs.size ≤ a → h₀.get? a = none := fun a ha => by
    cases e : h₀.get? a with
    | none => rfl
    | some o' => exact absurd (Heap.lt_size (F.keep a o' e)) (Nat.not_lt.mpr ha)
  have hDC : s.heap.objs.size ≠ (s.heap.push { cls := .type "list", dict := none, data := .seq ([] : List Value).toArray }).objs.size := by rw [hC]; exact Nat.ne_of_lt (Nat.lt_succ_self _)
  have hCL : (s.heap.push { cls := .type "list", dict := none, data := .seq ([] : List Value).toArray }).objs.size ≠ L := by rw [hC]; exact Nat.ne_of_gt (Nat.lt_succ_of_lt hLlt)
  have hCge : s.heap.objs.size ≤ (s.heap.push { cls := .type "list", dict := none, data := .seq ([] : List Value).toArray }).objs.size := by rw [hC]; exact Nat.le_succ _
  obtain ⟨oC, hoC, hnC⟩ := ns_obj (Heap.Ns.new (s.heap.push { cls := .type "list", dict := none, data := .seq ([] : List Value).toArray }) (.type "dict"))
  have hst' := W.frame _ _ _ hst fun b _ o e => up b o e
  have loop : ∀ s₃ : Shared, s₃ = { s with heap := (s.heap.push { cls := .type "list", dict := none, data := .seq ([] : List Value).toArray }).push { cls := .type "dict", data := .dict #[] } } →
      codeAny (model prog w) A (.compLoop (.ListComp elt [⟨target, iter, ifs, 0⟩] scope pos) 0 (.ref I) (.ref s.heap.objs.size) (compEnvC scope cl (s.heap.push { cls := .type "list", dict := none, data := .seq ([] : List Value).toArray }).objs.size env))
        (RR (.ref s.heap.objs.size) (s.heap.push { cls := .type "list", dict := none, data := .seq ([] : List Value).toArray }).objs.size) s₃ := by
    rintro s₃ rfl
    generalize (s.heap.push { cls := .type "list", dict := none, data := .seq ([] : List Value).toArray }).objs.size = C at *
    refine comp_core (s := s) (h₀ := h₀) (L := L) (m := m) (tk0 := s.toks) (bx₀ := [(C, oC)]) (adr := [C]) (news := news) (keep := keep) W hsz hwr hfp hIo hLw (fun hb => Nat.lt_irrefl _ (hwlt _ hb)) (fun b hb => ?_) (Nat.ne_of_gt hLlt) (fresh₀ _ (Nat.le_refl _))
      (BxA C) (fun bx hb => by obtain ⟨o, m₂, rfl, _⟩ := hb; rfl) J hJk hJl ?_ h0 ⟨oC, _, rfl, hnC⟩ (fun p hp => ⟨hnw p hp, Nat.ne_of_lt (Heap.lt_size (N p hp).1), fun hc => ?_⟩) hst' (F.keeps up) ?_ ?_
    · rw [List.mem_singleton.mp hb, hC]
      exact ⟨fun hw => Nat.lt_irrefl _ (Nat.lt_of_succ_lt (hwlt _ hw)), Nat.ne_of_gt (Nat.lt_succ_self _)⟩
    · rintro i v ys nx bx h tk its hi hP hJ ⟨oC', m₂, rfl, hn⟩ hoff hits hcov F' N'
      have hCw : C ∉ wr := fun hw => Nat.lt_irrefl _ (Nat.lt_of_succ_lt (hC ▸ hwlt _ hw))
      have hDw : s.heap.objs.size ∉ wr := fun hw => Nat.lt_irrefl _ (hwlt _ hw)
      refine turn i v ys nx h tk its C _ oC' m₂ hi hP hJ hn (fun p hp => ?_) (fun p hp => ?_) hits hcov (fun p hp => (hoff p hp).1) (fun p hp => Heap.lt_size (N p hp).1) (fun p hp => by rw [hC]; exact Nat.lt_succ_of_lt (Heap.lt_size (N p hp).1)) F' N'
      · rcases List.mem_cons.mp hp with rfl | hp
        · exact hDC
        · rcases List.mem_append.mp hp with hp | hp
          · exact fun e => hCw (e ▸ hits p hp)
          · exact fun e => (hoff p hp).2.2 (by rw [e]; exact .head _)
      · rcases List.mem_append.mp hp with hp | hp
        · exact fun e => hDw (e ▸ hits p hp)
        · exact (hoff p hp).2.1
    · rw [List.mem_singleton] at hc
      exact Nat.ne_of_lt (Nat.lt_of_lt_of_le (Heap.lt_size (N p hp).1) hCge) hc
    · intro p hp
      rcases List.mem_cons.mp hp with rfl | hp
      · exact ⟨hoC, hCL, fresh₀ _ hCge⟩
      · rcases List.mem_cons.mp hp with rfl | hp
        · exact ⟨Heap.get?_push_of_some _ (Heap.get?_push_size _ rfl), Nat.ne_of_gt hLlt, fresh₀ _ (Nat.le_refl _)⟩
        · exact ⟨up _ _ (N p hp).1, (N p hp).2⟩
    · rintro h tk ys nx bx hJ ⟨oC', m₂, rfl, hn⟩ hoff F' N'
      refine done _ C h tk ys nx oC' m₂ hJ hn (fun p hp => ?_) (fun p hp => (hoff p hp).2.1) (fun p hp => Heap.lt_size (N p hp).1) (fresh₀ _ hCge) hCL F' N'
      rcases List.mem_cons.mp hp with rfl | hp
      · exact hDC
      · exact fun e => (hoff p hp).2.2 (by rw [e]; exact .head _)
  exact codeAny_compStart_list (loop _ rfl) (hself _ _ _ hst' (loop _ rfl))
/-- the comprehension's block, its scope with one cell -/
theorem block_B {elt target iter : PySem.Expr} {ifs : List PySem.Expr} {scope : Scope} {cl : List (Str × Addr)} {pos : Pos} {I : Addr} {fp wr : List Addr} {n : Nat} {P Md : Nat → Value → Heap → Prop} {St : Nat → Heap → Prop} {keep news : Ledger} {RR : Value → Addr → Result → Shared → Prop}
    (W : KTurns prog w A target I fp wr n P Md St) (hsz : n ≤ sizeLine) (hwr : ∀ b ∈ wr, h₀.get? b = none) (hfp : ∀ b ∈ fp, b ∈ wr ∨ (∃ o, (b, o) ∈ keep) ∨ ∃ o, h₀.get? b = some o)
    (hIo : ∀ i h, St i h → ∀ b ∈ wr, ∃ o, h.get? b = some o) (hself : ∀ (s : Shared) (Q : Value → Shared → Prop) (E : Value → Shared → Prop), St 0 s.heap → Q (.ref I) s → wpAny (model prog w) A (pyIter (.ref I)) Q E s)
    (hLw : L ∉ wr) (hwlt : ∀ b ∈ wr, b < s.heap.objs.size) (hst : St 0 s.heap) (F : Fr h₀ L s.heap m) (N : News h₀ L s.heap news) (hnw : ∀ p ∈ news, p.1 ∉ wr)
    {x : Str} (hcell : scope.names.filter (fun y => y.2 == .cell) = [(x, .cell)])
    (J : Nat → List Value → Ledger → Prop) (hJk : ∀ i ys nx, J i ys nx → ∀ p ∈ keep, p ∈ nx) (hJl : ∀ i ys nx, J i ys nx → ys.length ≤ i) (h0 : J 0 [] news)
    (turn : ∀ i v ys nx h tk its C D oC m₂ c o u, i < n → P i v h → J i ys nx → NsObj oC m₂ → o.data = .cell u → c ≠ C → c ≠ D → (∀ p ∈ (D, lst ys) :: (its ++ nx), p.1 ≠ C) → (∀ p ∈ its ++ nx, p.1 ≠ D) → (∀ p ∈ its ++ nx, p.1 ≠ c) → (∀ p ∈ its, p.1 ∈ wr) → (∀ b ∈ wr, ∃ o, (b, o) ∈ its) → (∀ p ∈ nx, p.1 ∉ wr) → (∀ p ∈ news, p.1 < D) → (∀ p ∈ news, p.1 < C) → (∀ p ∈ news, p.1 < c) →
      Fr h₀ L h m → News h₀ L h ((C, oC) :: (c, o) :: (D, lst ys) :: (its ++ nx)) →
      wpAny (model prog w) A (assign target (compEnvC scope ((x, c) :: cl) C env) v) (fun _ s₂ => wpAny (model prog w) A (testsOf (compEnvC scope ((x, c) :: cl) C env) ifs) (fun ok s₃ =>
        if ok = true then wpAny (model prog w) A (eval elt (compEnvC scope ((x, c) :: cl) C env)) (fun y s₄ => CEnd h₀ L m wr D [C, c] ys (BxB C c) its (J (i + 1) (ys ++ [y])) { s with heap := h, toks := tk } s₄) (fun _ _ => False) s₃
        else CEnd h₀ L m wr D [C, c] ys (BxB C c) its (J (i + 1) ys) { s with heap := h, toks := tk } s₃) (fun _ _ => False) s₂) (fun _ _ => False) { s with heap := h, toks := tk })
    (done : ∀ D C h tk ys nx oC m', J n ys nx → NsObj oC m' → (∀ p ∈ (D, lst ys) :: nx, p.1 ≠ C) → (∀ p ∈ nx, p.1 ≠ D) → (∀ p ∈ news, p.1 < D) → h₀.get? C = none → C ≠ L → Fr h₀ L h m → News h₀ L h ((C, oC) :: (D, lst ys) :: nx) → RR (.ref D) C (.ok .next) { s with heap := h, toks := tk }) :
    wpAny (model prog w) A (newList []) (fun acc s₃ => wpAny (model prog w) A (newFunctionEnv scope env.globals cl [] env.qual none .none (some env)) (fun cenv s₄ =>
      codeAny (model prog w) A (.compStart (.ListComp elt [⟨target, iter, ifs, 0⟩] scope pos) 0 (.ref I) acc { cenv with scope := relabel scope env }) (RR acc cenv.locals) s₄) E s₃) E s := by
  refine wpAny_newObj_type (newEnv_cl ?_)
  dsimp only
  have hD1 : (s.heap.push { cls := .type "list", dict := none, data := .seq ([] : List Value).toArray }).get? s.heap.objs.size = some (lst []) := Heap.get?_push_size _ rfl
  have hC : (s.heap.push { cls := .type "list", dict := none, data := .seq ([] : List Value).toArray }).objs.size = s.heap.objs.size + 1 := Heap.size_push ..
  have up1 : ∀ b o, s.heap.get? b = some o → (s.heap.push { cls := .type "list", dict := none, data := .seq ([] : List Value).toArray }).get? b = some o := fun b o e => Heap.get?_push_of_some _ e
  generalize s.heap.push { cls := .type "list", dict := none, data := .seq ([] : List Value).toArray } = H1 at *
  have hc' : (H1.push { cls := .type "dict", data := .dict #[] }).objs.size = H1.objs.size + 1 := Heap.size_push ..
  obtain ⟨e1, e2⟩ := cells_one hcell (H1.objs.size + 1) cl (H1.push { cls := .type "dict", data := .dict #[] }) hc'
  rw [e1, e2]
  obtain ⟨oC, hoC, hnC⟩ := ns_obj (Heap.Ns.new H1 (.type "dict"))
  have hoC2 : ((H1.push { cls := .type "dict", data := .dict #[] }).push { cls := .type "cell", data := .cell none }).get? H1.objs.size = some oC := Heap.get?_push_of_some _ hoC
  have hoc : ((H1.push { cls := .type "dict", data := .dict #[] }).push { cls := .type "cell", data := .cell none }).get? (H1.objs.size + 1) = some { cls := .type "cell", data := .cell none } := by rw [← hc']; exact Heap.get?_push_size _ rfl
  have up : ∀ b o, s.heap.get? b = some o → ((H1.push { cls := .type "dict", data := .dict #[] }).push { cls := .type "cell", data := .cell none }).get? b = some o := fun b o e => Heap.get?_push_of_some _ (Heap.get?_push_of_some _ (up1 b o e))
  have hD3 : ((H1.push { cls := .type "dict", data := .dict #[] }).push { cls := .type "cell", data := .cell none }).get? s.heap.objs.size = some (lst []) := Heap.get?_push_of_some _ (Heap.get?_push_of_some _ hD1)
  generalize (H1.push { cls := .type "dict", data := .dict #[] }).push { cls := .type "cell", data := .cell none } = H3 at *
  generalize H1.objs.size = C at *
  have hLlt : L < s.heap.objs.size := F.ns.lt
  have fresh₀ : ∀ a, s.heap.objs.size ≤ a → h₀.get? a = none := fun a ha => by
    cases e : h₀.get? a with
    | none => rfl
    | some o' => exact absurd (Heap.lt_size (F.keep a o' e)) (Nat.not_lt.mpr ha)
  have hDC : s.heap.objs.size ≠ C := by rw [hC]; exact Nat.ne_of_lt (Nat.lt_succ_self _)
  have hCL : C ≠ L := by rw [hC]; exact Nat.ne_of_gt (Nat.lt_succ_of_lt hLlt)
  have hcL : C + 1 ≠ L := by rw [hC]; exact Nat.ne_of_gt (Nat.lt_succ_of_lt (Nat.lt_succ_of_lt hLlt))
  have hCge : s.heap.objs.size ≤ C := by rw [hC]; exact Nat.le_succ _
  have hcge : s.heap.objs.size ≤ C + 1 := Nat.le_succ_of_le hCge
  have hDc : s.heap.objs.size ≠ C + 1 := by rw [hC]; exact Nat.ne_of_lt (Nat.lt_succ_of_lt (Nat.lt_succ_self _))
  have hst' := W.frame _ _ _ hst fun b _ o e => up b o e
  have hCw : C ∉ wr := fun hw => Nat.lt_irrefl _ (Nat.lt_of_succ_lt (hC ▸ hwlt _ hw))
  have hcw : C + 1 ∉ wr := fun hw => Nat.lt_irrefl _ (Nat.lt_of_succ_lt (Nat.lt_of_succ_lt (hC ▸ hwlt _ hw)))
  have hDw : s.heap.objs.size ∉ wr := fun hw => Nat.lt_irrefl _ (hwlt _ hw)
  have loop : ∀ s₃ : Shared, s₃ = { s with heap := H3 } →
      codeAny (model prog w) A (.compLoop (.ListComp elt [⟨target, iter, ifs, 0⟩] scope pos) 0 (.ref I) (.ref s.heap.objs.size) (compEnvC scope ((x, C + 1) :: cl) C env))
        (RR (.ref s.heap.objs.size) C) s₃ := by
    rintro s₃ rfl
    refine comp_core (s := s) (h₀ := h₀) (L := L) (m := m) (tk0 := s.toks) (bx₀ := [(C, oC), (C + 1, { cls := .type "cell", data := .cell none })]) (adr := [C, C + 1]) (news := news) (keep := keep) W hsz hwr hfp hIo hLw hDw (fun b hb => ?_) (Nat.ne_of_gt hLlt) (fresh₀ _ (Nat.le_refl _))
      (BxB C (C + 1)) (fun bx hb => by obtain ⟨o, m₂, _, _, rfl, _⟩ := hb; rfl) J hJk hJl ?_ h0 ⟨oC, _, _, _, rfl, hnC, rfl⟩ (fun p hp => ⟨hnw p hp, Nat.ne_of_lt (Heap.lt_size (N p hp).1), fun hc => ?_⟩) hst' (F.keeps up) ?_ ?_
    · rcases List.mem_cons.mp hb with rfl | hb
      · exact ⟨hCw, Ne.symm hDC⟩
      · rw [List.mem_singleton.mp hb]; exact ⟨hcw, Ne.symm hDc⟩
    · rintro i v ys nx bx h tk its hi hP hJ ⟨oC', m₂, o, u, rfl, hn, hu⟩ hoff hits hcov F' N'
      refine turn i v ys nx h tk its C _ oC' m₂ (C + 1) o u hi hP hJ hn hu (Nat.succ_ne_self _) (Ne.symm hDc) (fun p hp => ?_) (fun p hp => ?_) (fun p hp => ?_) hits hcov (fun p hp => (hoff p hp).1) (fun p hp => Heap.lt_size (N p hp).1) (fun p hp => Nat.lt_of_lt_of_le (Heap.lt_size (N p hp).1) hCge) (fun p hp => Nat.lt_of_lt_of_le (Heap.lt_size (N p hp).1) hcge) F' N'
      · rcases List.mem_cons.mp hp with rfl | hp
        · exact hDC
        · rcases List.mem_append.mp hp with hp | hp
          · exact fun e => hCw (e ▸ hits p hp)
          · exact fun e => (hoff p hp).2.2 (by rw [e]; exact .head _)
      · rcases List.mem_append.mp hp with hp | hp
        · exact fun e => hDw (e ▸ hits p hp)
        · exact (hoff p hp).2.1
      · rcases List.mem_append.mp hp with hp | hp
        · exact fun e => hcw (e ▸ hits p hp)
        · exact fun e => (hoff p hp).2.2 (by rw [e]; exact .tail _ (.head _))
    · rcases List.mem_cons.mp hc with hc | hc
      · exact Nat.ne_of_lt (Nat.lt_of_lt_of_le (Heap.lt_size (N p hp).1) hCge) hc
      · exact Nat.ne_of_lt (Nat.lt_of_lt_of_le (Heap.lt_size (N p hp).1) hcge) (List.mem_singleton.mp hc)
    · intro p hp
      rcases List.mem_cons.mp hp with rfl | hp
      · exact ⟨hoC2, hCL, fresh₀ _ hCge⟩
      · rcases List.mem_cons.mp hp with rfl | hp
        · exact ⟨hoc, hcL, fresh₀ _ hcge⟩
        · rcases List.mem_cons.mp hp with rfl | hp
          · exact ⟨hD3, Nat.ne_of_gt hLlt, fresh₀ _ (Nat.le_refl _)⟩
          · exact ⟨up _ _ (N p hp).1, (N p hp).2⟩
    · rintro h tk ys nx bx hJ ⟨oC', m₂, o, u, rfl, hn, hu⟩ hoff F' N'
      refine done _ C h tk ys nx oC' m₂ hJ hn (fun p hp => ?_) (fun p hp => (hoff p hp).2.1) (fun p hp => Heap.lt_size (N p hp).1) (fresh₀ _ hCge) hCL F' (News.sub N' fun p hp => ?_)
      · rcases List.mem_cons.mp hp with rfl | hp
        · exact hDC
        · exact fun e => (hoff p hp).2.2 (by rw [e]; exact .head _)
      · rcases List.mem_cons.mp hp with rfl | hp
        · exact .head _
        · exact .tail _ (.tail _ hp)
  exact codeAny_compStart_list (loop _ rfl) (hself _ _ _ hst' (loop _ rfl))
end
end Mine
end
section
open PySem PySem.W PyProof.Rows PyProof.Rows.LCg
set_option Elab.async false
namespace Mine
set_option maxRecDepth 100000
/-- an element's end, as said by who walks it -/
inductive EEnd (h₀ : Heap) (L : Addr) (m : Str → Option Value) (bx : Obj → List (Addr × Obj)) (D : Addr) (ys : List Value) (its : Ledger) (off : List Addr) (J : Ledger → Prop) (s₁ s₂ : Shared) : Prop
  | mk (h' : Heap) (tk : Nat) (oC : Obj) (m₂ : Str → Option Value) (nx : Ledger) (q1 : s₂ = { s₁ with heap := h', toks := tk }) (q2 : Fr h₀ L h' m) (q3 : News h₀ L h' (bx oC ++ (D, lst ys) :: (its ++ nx))) (q4 : NsObj oC m₂) (q5 : (∀ p ∈ nx, p.1 ∉ off)) (q6 : J nx) : EEnd h₀ L m bx D ys its off J s₁ s₂
section
variable {prog : Program} {w : World} {A : Around} {E : Value → Shared → Prop} {s : Shared} {h₀ : Heap} {L : Addr} {m : Str → Option Value} {env : Env}
/-- an iterator at hand -/
structure IterOk (prog : Program) (w : World) (A : Around) (h₀ : Heap) (L : Addr) (m : Str → Option Value) (target : PySem.Expr) (I : Addr) (fp : List Addr) (n : Nat) (P Md : Nat → Value → Heap → Prop) (St : Nat → Heap → Prop) (keep news : Ledger) (s : Shared) : Prop where
  W : KTurns prog w A target I fp [I] n P Md St
  hsz : n ≤ sizeLine
  hI : h₀.get? I = none
  hfp : ∀ b ∈ fp, b = I ∨ (∃ o, (b, o) ∈ keep) ∨ ∃ o, h₀.get? b = some o
  hIo : ∀ i h, St i h → ∃ o, h.get? I = some o
  self : ∀ (s : Shared) (Q : Value → Shared → Prop) (E : Value → Shared → Prop), St 0 s.heap → Q (.ref I) s → wpAny (model prog w) A (pyIter (.ref I)) Q E s
  hL : L ≠ I
  lt : I < s.heap.objs.size
  st : St 0 s.heap
  F : Fr h₀ L s.heap m
  N : News h₀ L s.heap news
  off : ∀ p ∈ news, p.1 < I
theorem iter_list {ax : Addr} {vs : List Value} {n : Nat} {news : Ledger} {T : Value → Shared → Prop} (hh : A.handled = none) (F : Fr h₀ L s.heap m) (N : News h₀ L s.heap news) (hm : (ax, listOf vs.toArray n) ∈ news) (hz : vs.length ≤ sizeLine)
    (h : ∀ I fp P Md St g, (∀ target, IterOk prog w A h₀ L m target I fp vs.length P Md St [(ax, listOf vs.toArray n)] news { s with heap := g }) → (∀ i v h, P i v h → vs[i]? = some v) → T (.ref I) { s with heap := g }) :
    wpAny (model prog w) A (pyIter (.ref ax)) T E s := by
  have hax := N _ hm
  have hl : s.heap.IsList ax vs.toArray := ⟨_, hax.1, rfl, n, rfl⟩
  have hlt : ax < s.heap.objs.size := Heap.lt_size hax.1
  have hne : ax ≠ s.heap.objs.size := Nat.ne_of_lt hlt
  refine wpAny_pyIter_list hl ?_
  have W0 := Walks.list (prog := prog) (w := w) hh s.heap.objs.size ax hne vs.toArray
  have W := fun target => KTurns.ofWalks (target := target) W0 fun i v s Q E st q => letGo_listiter st.1 q
  have hsz : vs.toArray.size = vs.length := by simp
  simp only [hsz] at W
  refine h _ _ _ _ _ _ (fun target => ⟨W target, hz, next_is_new F, fun b hb => ?_, fun i h st => ?_, fun s Q E st q => W0.self 0 s Q E st q, Nat.ne_of_lt F.ns.lt, ?_, ?_, F.push _, fun p hp => ⟨Heap.get?_push_of_some _ (N p hp).1, (N p hp).2⟩, fun p hp => Heap.lt_size (N p hp).1⟩) fun i v h hP => ?_
  · have hb' : b = s.heap.objs.size ∨ b = ax := by simpa using hb
    rcases hb' with e | e
    · exact .inl e
    · exact .inr (.inl ⟨_, by rw [e]; exact .head _⟩)
  · obtain ⟨o, e, _⟩ := st.1; exact ⟨o, e⟩
  · show s.heap.objs.size < (s.heap.push _).objs.size
    rw [Heap.size_push]; exact Nat.lt_succ_self _
  · exact ⟨⟨_, Heap.get?_push_size _ rfl, rfl, rfl⟩, hl.at fun o e => Heap.get?_push_of_some _ e⟩
  · have hP' : vs.toArray[i]? = some v := hP
    simpa using hP'
theorem iter_range {r : Addr} {a b : Int} {t u v : Tok} {n : Nat} {news : Ledger} {T : Value → Shared → Prop} (hh : A.handled = none) (F : Fr h₀ L s.heap m) (N : News h₀ L s.heap news)
    (hr : IsRange s.heap r a b 1 t u v) (hsm : Builtin.Range.small a b 1 = true) (hn : Builtin.Range.rangeSize a b 1 = ((n : Nat) : Int)) (hz : n ≤ sizeLine)
    (h : ∀ I fp P Md St g, (∀ x px, IterOk prog w A h₀ L m (.Name x px) I fp n P Md St [] news { s with heap := g }) → (∀ i v h, P i v h → ∃ t, v = .int (a + (i : Int)) t) → T (.ref I) { s with heap := g }) :
    wpAny (model prog w) A (pyIter (.ref r)) T E s := by
  refine wpAny_pyIter_range hr hsm ?_
  have W0 := range_walks (prog := prog) (w := w) (I := s.heap.objs.size) hh a n
  have W := fun x px => KTurns.ofWalks (target := .Name x px) W0 fun i v s Q E st q => wpAny_pure q
  refine h _ _ _ _ _ _ (fun x px => ⟨W x px, hz, next_is_new F, fun b hb => .inl (List.mem_singleton.mp hb), fun i h st => ⟨_, st⟩, fun s Q E st q => W0.self 0 s Q E st q, Nat.ne_of_lt F.ns.lt, ?_, ?_, F.push _, fun p hp => ⟨Heap.get?_push_of_some _ (N p hp).1, (N p hp).2⟩, fun p hp => Heap.lt_size (N p hp).1⟩) fun i v h hP => hP
  · show s.heap.objs.size < (s.heap.push _).objs.size
    rw [Heap.size_push]; exact Nat.lt_succ_self _
  · show IsRangeIter _ _ _ _ _
    rw [hn]; simpa using Heap.get?_push_size _ rfl
/-- what a walker of the comprehension's turns says: without cells -/
def TurnA (prog : Program) (w : World) (A : Around) (h₀ : Heap) (L : Addr) (m : Str → Option Value) (env : Env) (elt target : PySem.Expr) (ifs : List PySem.Expr) (scope : Scope) (cl : List (Str × Addr)) (I : Addr) (n : Nat) (P : Nat → Value → Heap → Prop) (news : Ledger) (s : Shared) (J : Nat → List Value → Ledger → Prop) : Prop :=
  ∀ i v ys nx h tk oI C D oC m₂, i < n → P i v h → J i ys nx → NsObj oC m₂ → (∀ p ∈ (D, lst ys) :: (I, oI) :: nx, p.1 ≠ C) → (∀ p ∈ (I, oI) :: nx, p.1 ≠ D) → (∀ p ∈ nx, p.1 ≠ I) → (∀ p ∈ news, p.1 < D) → (∀ p ∈ news, p.1 < C) →
    Fr h₀ L h m → News h₀ L h ((C, oC) :: (D, lst ys) :: (I, oI) :: nx) →
    wpAny (model prog w) A (assign target (compEnvC scope cl C env) v) (fun _ s₂ => wpAny (model prog w) A (testsOf (compEnvC scope cl C env) ifs) (fun ok s₃ =>
      if ok = true then wpAny (model prog w) A (eval elt (compEnvC scope cl C env)) (fun y s₄ => EEnd h₀ L m (fun oC => [(C, oC)]) D ys [(I, oI)] [I, D, C] (J (i + 1) (ys ++ [y])) { s with heap := h, toks := tk } s₄) (fun _ _ => False) s₃
      else EEnd h₀ L m (fun oC => [(C, oC)]) D ys [(I, oI)] [I, D, C] (J (i + 1) ys) { s with heap := h, toks := tk } s₃) (fun _ _ => False) s₂) (fun _ _ => False) { s with heap := h, toks := tk }
theorem its_one {I : Addr} {h : Heap} {its X : Ledger} (hits : ∀ p ∈ its, p.1 ∈ [I]) (hcov : ∀ b ∈ [I], ∃ o, (b, o) ∈ its) (N : ∀ p ∈ its, h.get? p.1 = some p.2) : ∃ oI, (∀ p ∈ its, p = (I, oI)) ∧ (I, oI) ∈ its := by
  obtain ⟨oI, hoI⟩ := hcov I (.head _)
  refine ⟨oI, fun p hp => ?_, hoI⟩
  have e1 : p.1 = I := List.mem_singleton.mp (hits p hp)
  have g1 := N p hp
  have g2 := N _ hoI
  obtain ⟨pa, po⟩ := p
  dsimp only at e1 g1 g2
  subst e1
  rw [g1] at g2
  rw [Option.some.inj g2]
theorem comp_A {elt target iter : PySem.Expr} {ifs : List PySem.Expr} {scope : Scope} {cl : List (Str × Addr)} {pos : Pos} {I : Addr} {fp : List Addr} {n : Nat} {P Md : Nat → Value → Heap → Prop} {St : Nat → Heap → Prop} {keep news : Ledger} {RR : Value → Addr → Result → Shared → Prop}
    (K : IterOk prog w A h₀ L m target I fp n P Md St keep news s) (hcell : ∀ y ∈ scope.names, y.2 ≠ .cell)
    (J : Nat → List Value → Ledger → Prop) (hJk : ∀ i ys nx, J i ys nx → ∀ p ∈ keep, p ∈ nx) (hJl : ∀ i ys nx, J i ys nx → ys.length ≤ i) (h0 : J 0 [] news)
    (turn : TurnA prog w A h₀ L m env elt target ifs scope cl I n P news s J)
    (done : ∀ D C h tk ys nx oC m', J n ys nx → NsObj oC m' → (∀ p ∈ (D, lst ys) :: nx, p.1 ≠ C) → (∀ p ∈ nx, p.1 ≠ D) → (∀ p ∈ news, p.1 < D) → h₀.get? C = none → C ≠ L → Fr h₀ L h m → News h₀ L h ((C, oC) :: (D, lst ys) :: nx) → RR (.ref D) C (.ok .next) { s with heap := h, toks := tk }) :
    wpAny (model prog w) A (newList []) (fun acc s₃ => wpAny (model prog w) A (newFunctionEnv scope env.globals cl [] env.qual none .none (some env)) (fun cenv s₄ =>
      codeAny (model prog w) A (.compStart (.ListComp elt [⟨target, iter, ifs, 0⟩] scope pos) 0 (.ref I) acc { cenv with scope := relabel scope env }) (RR acc cenv.locals) s₄) E s₃) E s := by
  refine block_A (keep := keep) (news := news) K.W K.hsz (fun b hb => by rw [List.mem_singleton.mp hb]; exact K.hI) (fun b hb => (K.hfp b hb).imp (fun e => by rw [e]; exact .head _) id) (fun i h st b hb => by rw [List.mem_singleton.mp hb]; exact K.hIo i h st)
    K.self (fun hb => K.hL (List.mem_singleton.mp hb)) (fun b hb => by rw [List.mem_singleton.mp hb]; exact K.lt) K.st K.F K.N (fun p hp hb => Nat.lt_irrefl _ (List.mem_singleton.mp hb ▸ K.off p hp)) hcell J hJk hJl h0 ?_ done
  rintro i v ys nx h tk its C D oC m₂ hi hP hJ hn hC hD hits hcov hnx hnD hnC F' N'
  obtain ⟨oI, hall, hoI⟩ := its_one (X := []) hits hcov fun p hp => (N' p (.tail _ (.tail _ (List.mem_append_left _ hp)))).1
  have conv : ∀ ys' s₄, EEnd h₀ L m (fun oC => [(C, oC)]) D ys [(I, oI)] [I, D, C] (J (i + 1) ys') { s with heap := h, toks := tk } s₄ → CEnd h₀ L m [I] D [C] ys (BxA C) its (J (i + 1) ys') { s with heap := h, toks := tk } s₄ := by
    rintro ys' s₄ ⟨h', tk', oC', m', nx', e, F₂, N₂, hn', ho, hj⟩
    refine ⟨h', tk', [(C, oC')], nx', e, F₂, fun p hp => ?_, fun p hp => ?_, ⟨oC', m', rfl, hn'⟩, hj⟩
    · rcases List.mem_cons.mp hp with rfl | hp
      · exact N₂ _ (.head _)
      · rcases List.mem_cons.mp hp with rfl | hp
        · exact N₂ _ (.tail _ (.head _))
        · rcases List.mem_append.mp hp with hp | hp
          · rw [hall p hp]; exact N₂ _ (.tail _ (.tail _ (.head _)))
          · exact N₂ p (.tail _ (.tail _ (.tail _ hp)))
    · have := ho p hp
      simp only [List.mem_cons, List.not_mem_nil, or_false, not_or] at this ⊢
      exact this
  refine wpAny_mono (turn i v ys nx h tk oI C D oC m₂ hi hP hJ hn (fun p hp => ?_) (fun p hp => ?_) (fun p hp e => hnx p hp (by rw [e]; exact .head _)) hnD hnC F' (fun p hp => ?_)) (fun _ s₂ h₂ => wpAny_mono h₂ (fun ok s₃ h₃ => ?_) fun _ _ e => e) fun _ _ e => e
  · rcases List.mem_cons.mp hp with rfl | hp
    · exact hC _ (.head _)
    · rcases List.mem_cons.mp hp with rfl | hp
      · exact hC _ (.tail _ (List.mem_append_left _ hoI))
      · exact hC p (.tail _ (List.mem_append_right _ hp))
  · rcases List.mem_cons.mp hp with rfl | hp
    · exact hD _ (List.mem_append_left _ hoI)
    · exact hD p (List.mem_append_right _ hp)
  · rcases List.mem_cons.mp hp with rfl | hp
    · exact N' _ (.head _)
    · rcases List.mem_cons.mp hp with rfl | hp
      · exact N' _ (.tail _ (.head _))
      · rcases List.mem_cons.mp hp with rfl | hp
        · exact N' _ (.tail _ (.tail _ (List.mem_append_left _ hoI)))
        · exact N' p (.tail _ (.tail _ (List.mem_append_right _ hp)))
  · cases ok with
    | false =>
      simp only [Bool.false_eq_true, if_false] at h₃ ⊢
      exact conv _ _ h₃
    | true =>
      simp only [if_true] at h₃ ⊢
      exact wpAny_mono h₃ (fun y s₄ h₄ => conv _ _ h₄) fun _ _ e => e
/-- with one cell -/
def TurnB (prog : Program) (w : World) (A : Around) (h₀ : Heap) (L : Addr) (m : Str → Option Value) (env : Env) (elt target : PySem.Expr) (ifs : List PySem.Expr) (scope : Scope) (x : Str) (cl : List (Str × Addr)) (I : Addr) (n : Nat) (P : Nat → Value → Heap → Prop) (news : Ledger) (s : Shared) (J : Nat → List Value → Ledger → Prop) : Prop :=
  ∀ i v ys nx h tk oI C D oC m₂ c o u, i < n → P i v h → J i ys nx → NsObj oC m₂ → o.data = .cell u → @Ne Nat c C → @Ne Nat c D → (∀ p ∈ (D, lst ys) :: (I, oI) :: nx, p.1 ≠ C) → (∀ p ∈ (I, oI) :: nx, p.1 ≠ D) → (∀ p ∈ (I, oI) :: nx, p.1 ≠ c) → (∀ p ∈ nx, p.1 ≠ I) → (∀ p ∈ news, p.1 < D) → (∀ p ∈ news, p.1 < C) → (∀ p ∈ news, p.1 < c) →
    Fr h₀ L h m → News h₀ L h ((C, oC) :: (c, o) :: (D, lst ys) :: (I, oI) :: nx) →
    wpAny (model prog w) A (assign target (compEnvC scope ((x, c) :: cl) C env) v) (fun _ s₂ => wpAny (model prog w) A (testsOf (compEnvC scope ((x, c) :: cl) C env) ifs) (fun ok s₃ =>
      if ok = true then wpAny (model prog w) A (eval elt (compEnvC scope ((x, c) :: cl) C env)) (fun y s₄ => ∃ o u, o.data = .cell u ∧ EEnd h₀ L m (fun oC => [(C, oC), (c, o)]) D ys [(I, oI)] [I, D, C, c] (J (i + 1) (ys ++ [y])) { s with heap := h, toks := tk } s₄) (fun _ _ => False) s₃
      else ∃ o u, o.data = .cell u ∧ EEnd h₀ L m (fun oC => [(C, oC), (c, o)]) D ys [(I, oI)] [I, D, C, c] (J (i + 1) ys) { s with heap := h, toks := tk } s₃) (fun _ _ => False) s₂) (fun _ _ => False) { s with heap := h, toks := tk }
theorem comp_B {elt target iter : PySem.Expr} {ifs : List PySem.Expr} {scope : Scope} {cl : List (Str × Addr)} {pos : Pos} {I : Addr} {fp : List Addr} {n : Nat} {P Md : Nat → Value → Heap → Prop} {St : Nat → Heap → Prop} {keep news : Ledger} {RR : Value → Addr → Result → Shared → Prop} {x : Str}
    (K : IterOk prog w A h₀ L m target I fp n P Md St keep news s) (hcell : scope.names.filter (fun y => y.2 == .cell) = [(x, .cell)])
    (J : Nat → List Value → Ledger → Prop) (hJk : ∀ i ys nx, J i ys nx → ∀ p ∈ keep, p ∈ nx) (hJl : ∀ i ys nx, J i ys nx → ys.length ≤ i) (h0 : J 0 [] news)
    (turn : TurnB prog w A h₀ L m env elt target ifs scope x cl I n P news s J)
    (done : ∀ D C h tk ys nx oC m', J n ys nx → NsObj oC m' → (∀ p ∈ (D, lst ys) :: nx, p.1 ≠ C) → (∀ p ∈ nx, p.1 ≠ D) → (∀ p ∈ news, p.1 < D) → h₀.get? C = none → C ≠ L → Fr h₀ L h m → News h₀ L h ((C, oC) :: (D, lst ys) :: nx) → RR (.ref D) C (.ok .next) { s with heap := h, toks := tk }) :
    wpAny (model prog w) A (newList []) (fun acc s₃ => wpAny (model prog w) A (newFunctionEnv scope env.globals cl [] env.qual none .none (some env)) (fun cenv s₄ =>
      codeAny (model prog w) A (.compStart (.ListComp elt [⟨target, iter, ifs, 0⟩] scope pos) 0 (.ref I) acc { cenv with scope := relabel scope env }) (RR acc cenv.locals) s₄) E s₃) E s := by
  refine block_B (keep := keep) (news := news) (x := x) K.W K.hsz (fun b hb => by rw [List.mem_singleton.mp hb]; exact K.hI) (fun b hb => (K.hfp b hb).imp (fun e => by rw [e]; exact .head _) id) (fun i h st b hb => by rw [List.mem_singleton.mp hb]; exact K.hIo i h st)
    K.self (fun hb => K.hL (List.mem_singleton.mp hb)) (fun b hb => by rw [List.mem_singleton.mp hb]; exact K.lt) K.st K.F K.N (fun p hp hb => Nat.lt_irrefl _ (List.mem_singleton.mp hb ▸ K.off p hp)) hcell J hJk hJl h0 ?_ done
  rintro i v ys nx h tk its C D oC m₂ c o u hi hP hJ hn hu hcC hcD hC hD hc hits hcov hnx hnD hnC hnc F' N'
  obtain ⟨oI, hall, hoI⟩ := its_one (X := []) hits hcov fun p hp => (N' p (.tail _ (.tail _ (.tail _ (List.mem_append_left _ hp))))).1
  have conv : ∀ ys' s₄, (∃ o u, o.data = .cell u ∧ EEnd h₀ L m (fun oC => [(C, oC), (c, o)]) D ys [(I, oI)] [I, D, C, c] (J (i + 1) ys') { s with heap := h, toks := tk } s₄) → CEnd h₀ L m [I] D [C, c] ys (BxB C c) its (J (i + 1) ys') { s with heap := h, toks := tk } s₄ := by
    rintro ys' s₄ ⟨o', u', hu', h', tk', oC', m', nx', e, F₂, N₂, hn', ho, hj⟩
    refine ⟨h', tk', [(C, oC'), (c, o')], nx', e, F₂, fun p hp => ?_, fun p hp => ?_, ⟨oC', m', o', u', rfl, hn', hu'⟩, hj⟩
    · rcases List.mem_cons.mp hp with rfl | hp
      · exact N₂ _ (.head _)
      · rcases List.mem_cons.mp hp with rfl | hp
        · exact N₂ _ (.tail _ (.head _))
        · rcases List.mem_cons.mp hp with rfl | hp
          · exact N₂ _ (.tail _ (.tail _ (.head _)))
          · rcases List.mem_append.mp hp with hp | hp
            · rw [hall p hp]; exact N₂ _ (.tail _ (.tail _ (.tail _ (.head _))))
            · exact N₂ p (.tail _ (.tail _ (.tail _ (.tail _ hp))))
    · have := ho p hp
      simp only [List.mem_cons, List.not_mem_nil, or_false, not_or] at this ⊢
      exact this
  refine wpAny_mono (turn i v ys nx h tk oI C D oC m₂ c o u hi hP hJ hn hu hcC hcD (fun p hp => ?_) (fun p hp => ?_) (fun p hp => ?_) (fun p hp e => hnx p hp (by rw [e]; exact .head _)) hnD hnC hnc F' (fun p hp => ?_)) (fun _ s₂ h₂ => wpAny_mono h₂ (fun ok s₃ h₃ => ?_) fun _ _ e => e) fun _ _ e => e
  · rcases List.mem_cons.mp hp with rfl | hp
    · exact hC _ (.head _)
    · rcases List.mem_cons.mp hp with rfl | hp
      · exact hC _ (.tail _ (List.mem_append_left _ hoI))
      · exact hC p (.tail _ (List.mem_append_right _ hp))
  · rcases List.mem_cons.mp hp with rfl | hp
    · exact hD _ (List.mem_append_left _ hoI)
    · exact hD p (List.mem_append_right _ hp)
  · rcases List.mem_cons.mp hp with rfl | hp
    · exact hc _ (List.mem_append_left _ hoI)
    · exact hc p (List.mem_append_right _ hp)
  · rcases List.mem_cons.mp hp with rfl | hp
    · exact N' _ (.head _)
    · rcases List.mem_cons.mp hp with rfl | hp
      · exact N' _ (.tail _ (.head _))
      · rcases List.mem_cons.mp hp with rfl | hp
        · exact N' _ (.tail _ (.tail _ (.head _)))
        · rcases List.mem_cons.mp hp with rfl | hp
          · exact N' _ (.tail _ (.tail _ (.tail _ (List.mem_append_left _ hoI))))
          · exact N' p (.tail _ (.tail _ (.tail _ (List.mem_append_right _ hp))))
  · cases ok with
    | false =>
      simp only [Bool.false_eq_true, if_false] at h₃ ⊢
      exact conv _ _ h₃
    | true =>
      simp only [if_true] at h₃ ⊢
      exact wpAny_mono h₃ (fun y s₄ h₄ => conv _ _ h₄) fun _ _ e => e
end
end Mine
end
section
open PySem PySem.W PyProof.Rows PyProof.Rows.LCg
set_option Elab.async false
namespace Mine
set_option maxRecDepth 100000
section
variable {prog : Program} {w : World} {A : Around} {E : Value → Shared → Prop} {s : Shared} {h₀ : Heap} {L : Addr} {m : Str → Option Value} {env : Env}
/-- what stands behind the source of a comprehension -/
def CRest (prog : Program) (w : World) (A : Around) (E : Value → Shared → Prop) (env : Env) (elt target iter : PySem.Expr) (ifs : List PySem.Expr) (scope : Scope) (cl : List (Str × Addr)) (pos : Pos) (use : Option (Value → Sem Unit)) (Q : Value → Shared → Prop) (it : Value) (s₂ : Shared) : Prop :=
  wpAny (model prog w) A (newList []) (fun acc s₃ => wpAny (model prog w) A (newFunctionEnv scope env.globals cl [] env.qual none .none (some env)) (fun cenv s₄ =>
    codeAny (model prog w) A (.compStart (.ListComp elt [⟨target, iter, ifs, 0⟩] scope pos) 0 it acc { cenv with scope := relabel scope env }) (compPost (model prog w) A E use Q acc cenv.locals) s₄) E s₃) E s₂
theorem LC_eval {elt target iter : PySem.Expr} {ifs : List PySem.Expr} {scope : Scope} {cl : List (Str × Addr)} {pos : Pos} {Q : Value → Shared → Prop} (hclos : closureFor scope env = pure cl) (hkind : scope.kind = .function) (hnames : ∀ x ∈ scope.names, x.2 = .local → scope.names.lookup x.1 = some .local)
    (h : wpAny (model prog w) A (eval iter env) (fun xv s₁ => wpAny (model prog w) A (pyIter xv) (fun it s₂ => CRest prog w A E env elt target iter ifs scope cl pos none Q it s₂) E s₁) E s)
    (hs : ∀ x, foldedSetIterable iter env x = pure x := by intro _; rfl) :
    wpAny (model prog w) A (eval (.ListComp elt [⟨target, iter, ifs, 0⟩] scope pos) env) Q E s := by
  rw [eval_ListComp]
  exact wpAny_comprehension_free (use := none) rfl hs hclos hkind hnames h
theorem LC_assign {elt target iter : PySem.Expr} {ifs : List PySem.Expr} {scope : Scope} {cl : List (Str × Addr)} {pos spos py : Pos} {y : Str} {Q : Flow → Shared → Prop}
    (hsw : swapsWith (.ListComp elt [⟨target, iter, ifs, 0⟩] scope pos) (some (.Name y py)) spos.line env = pure true)
    (hclos : closureFor scope env = pure cl) (hkind : scope.kind = .function) (hnames : ∀ x ∈ scope.names, x.2 = .local → scope.names.lookup x.1 = some .local)
    (h : wpAny (model prog w) A (eval iter env) (fun xv s₁ => wpAny (model prog w) A (pyIter xv) (fun it s₂ => CRest prog w A E env elt target iter ifs scope cl pos (some (assign (.Name y py) env)) (fun _ s' => Q .next s') it s₂) E s₁) E s)
    (hs : ∀ x, foldedSetIterable iter env x = pure x := by intro _; rfl) :
    wpAny (model prog w) A (exec (.Assign [.Name y py] (.ListComp elt [⟨target, iter, ifs, 0⟩] scope pos) spos) env) Q E s := by
  rw [exec_Assign_Name_used _ _ _ _ hsw]
  refine wpAny_bind (wpAny_standAt (wpAny_bind ?_))
  show wpAny _ A (do let _ ← comprehension (.ListComp elt [⟨target, iter, ifs, 0⟩] scope pos) scope env _ (newList []) false (eval iter env) (some (assign (.Name y py) env))) _ _ s
  exact wpAny_bind (wpAny_mono (wpAny_comprehension_free (use := some (assign (.Name y py) env)) (Q := fun _ s' => Q .next s') rfl hs hclos hkind hnames h) (fun _ s' hq => wpAny_pure (wpAny_pure hq)) fun _ _ e => e)
section
variable {elt target iter : PySem.Expr} {ifs : List PySem.Expr} {scope : Scope} {cl : List (Str × Addr)} {pos : Pos} {I : Addr} {fp : List Addr} {n : Nat} {P Md : Nat → Value → Heap → Prop} {St : Nat → Heap → Prop} {keep news : Ledger}
theorem doneE {Q : Value → Shared → Prop} {D C : Addr} {h : Heap} {tk : Nat} {ys : List Value} {nx : Ledger} {oC : Obj} {m' : Str → Option Value} (hn : NsObj oC m') (hC : ∀ p ∈ (D, lst ys) :: nx, p.1 ≠ C) (hC0 : h₀.get? C = none) (hCL : C ≠ L) (F : Fr h₀ L h m) (N : News h₀ L h ((C, oC) :: (D, lst ys) :: nx))
    (k : ∀ h', Fr h₀ L h' m → News h₀ L h' ((D, lst ys) :: nx) → Q (.ref D) { s with heap := h', toks := tk }) :
    compPost (model prog w) A E none Q (.ref D) C (.ok .next) { s with heap := h, toks := tk } :=
  ⟨m', hn.ns (N _ (.head _)).1, fun h' hs => k h' (F.change hs hCL hC0) fun p hp => ⟨hs.extBut _ _ (hC p hp) (N p (.tail _ hp)).1, (N p (.tail _ hp)).2⟩⟩
theorem doneU {Q : Flow → Shared → Prop} {y : Str} {py : Pos} {D C : Addr} {h : Heap} {tk : Nat} {oC : Obj} {m' : Str → Option Value} (hn : NsObj oC m') (hC0 : h₀.get? C = none) (hCL : C ≠ L)
    (k : wpAny (model prog w) A (storeName env y (.ref D)) (fun _ s'' => ∃ h'' tk'' m'' nx'', s'' = { s with heap := h'', toks := tk'' } ∧ Fr h₀ L h'' m'' ∧ News h₀ L h'' ((C, oC) :: nx'') ∧ (∀ p ∈ nx'', p.1 ≠ C) ∧ ∀ h3, Fr h₀ L h3 m'' → News h₀ L h3 nx'' → Q .next { s with heap := h3, toks := tk'' }) E { s with heap := h, toks := tk }) :
    compPost (model prog w) A E (some (assign (.Name y py) env)) (fun _ s' => Q .next s') (.ref D) C (.ok .next) { s with heap := h, toks := tk } := by
  show wpAny _ A (assign (.Name y py) env (.ref D)) _ _ _
  refine wpAny_assign_Name (wpAny_mono k (fun _ s'' hk => ?_) fun _ _ e => e)
  obtain ⟨h'', tk'', m'', nx'', rfl, F, N, hC, q⟩ := hk
  exact ⟨m', hn.ns (N _ (.head _)).1, fun h' hs => q h' (F.change hs hCL hC0) fun p hp => ⟨hs.extBut _ _ (hC p hp) (N p (.tail _ hp)).1, (N p (.tail _ hp)).2⟩⟩
/-- an expression, without cells -/
theorem LC_A {Q : Value → Shared → Prop} (K : IterOk prog w A h₀ L m target I fp n P Md St keep news s) (hcell : ∀ y ∈ scope.names, y.2 ≠ .cell)
    (J : Nat → List Value → Ledger → Prop) (hJk : ∀ i ys nx, J i ys nx → ∀ p ∈ keep, p ∈ nx) (hJl : ∀ i ys nx, J i ys nx → ys.length ≤ i) (h0 : J 0 [] news)
    (turn : TurnA prog w A h₀ L m env elt target ifs scope cl I n P news s J)
    (done : ∀ D h tk ys nx, J n ys nx → (∀ p ∈ nx, p.1 ≠ D) → (∀ p ∈ news, p.1 < D) → Fr h₀ L h m → News h₀ L h ((D, lst ys) :: nx) → Q (.ref D) { s with heap := h, toks := tk }) :
    CRest prog w A E env elt target iter ifs scope cl pos none Q (.ref I) s :=
  comp_A K hcell J hJk hJl h0 turn fun D C h tk ys nx oC m' hJ hn hC hD hnD hC0 hCL F N => doneE hn hC hC0 hCL F N fun h' F' N' => done D h' tk ys nx hJ hD hnD F' N'
theorem LC_B {Q : Value → Shared → Prop} {x : Str} (K : IterOk prog w A h₀ L m target I fp n P Md St keep news s) (hcell : scope.names.filter (fun y => y.2 == .cell) = [(x, .cell)])
    (J : Nat → List Value → Ledger → Prop) (hJk : ∀ i ys nx, J i ys nx → ∀ p ∈ keep, p ∈ nx) (hJl : ∀ i ys nx, J i ys nx → ys.length ≤ i) (h0 : J 0 [] news)
    (turn : TurnB prog w A h₀ L m env elt target ifs scope x cl I n P news s J)
    (done : ∀ D h tk ys nx, J n ys nx → (∀ p ∈ nx, p.1 ≠ D) → (∀ p ∈ news, p.1 < D) → Fr h₀ L h m → News h₀ L h ((D, lst ys) :: nx) → Q (.ref D) { s with heap := h, toks := tk }) :
    CRest prog w A E env elt target iter ifs scope cl pos none Q (.ref I) s :=
  comp_B K hcell J hJk hJl h0 turn fun D C h tk ys nx oC m' hJ hn hC hD hnD hC0 hCL F N => doneE hn hC hC0 hCL F N fun h' F' N' => done D h' tk ys nx hJ hD hnD F' N'
/-- an assignment, without cells -/
theorem LC_AU {Q : Flow → Shared → Prop} {y : Str} {py : Pos} (K : IterOk prog w A h₀ L m target I fp n P Md St keep news s) (hcell : ∀ y ∈ scope.names, y.2 ≠ .cell)
    (J : Nat → List Value → Ledger → Prop) (hJk : ∀ i ys nx, J i ys nx → ∀ p ∈ keep, p ∈ nx) (hJl : ∀ i ys nx, J i ys nx → ys.length ≤ i) (h0 : J 0 [] news)
    (turn : TurnA prog w A h₀ L m env elt target ifs scope cl I n P news s J)
    (done : ∀ D C h tk ys nx oC, J n ys nx → (∀ p ∈ (D, lst ys) :: nx, p.1 ≠ C) → (∀ p ∈ nx, p.1 ≠ D) → (∀ p ∈ news, p.1 < D) → Fr h₀ L h m → News h₀ L h ((C, oC) :: (D, lst ys) :: nx) →
      wpAny (model prog w) A (storeName env y (.ref D)) (fun _ s'' => ∃ h'' tk'' m'' nx'', s'' = { s with heap := h'', toks := tk'' } ∧ Fr h₀ L h'' m'' ∧ News h₀ L h'' ((C, oC) :: nx'') ∧ (∀ p ∈ nx'', p.1 ≠ C) ∧ ∀ h3, Fr h₀ L h3 m'' → News h₀ L h3 nx'' → Q .next { s with heap := h3, toks := tk'' }) E { s with heap := h, toks := tk }) :
    CRest prog w A E env elt target iter ifs scope cl pos (some (assign (.Name y py) env)) (fun _ s' => Q .next s') (.ref I) s :=
  comp_A K hcell J hJk hJl h0 turn fun D C h tk ys nx oC m' hJ hn hC hD hnD hC0 hCL F N => doneU hn hC0 hCL (done D C h tk ys nx oC hJ hC hD hnD F N)
end
/-- names within a comprehension -/
theorem name_LC {M : Model} {x : Str} {pos : Pos} {v : Value} {oC : Obj} {m₂ : Str → Option Value} {nx : Ledger} {Q : Value → Shared → Prop} (N : News h₀ L s.heap nx) (hm : (env.locals, oC) ∈ nx) (hn : NsObj oC m₂) (hv : m₂ x = some v) (h : Q v s)
    (hk : env.scope.kind = .function := by rfl) (hl : env.kindOf x = some .local := by rfl) (hd : (x == ("__debug__" : Str)) = false := by decide) : wpAny M A (eval (.Name x pos) env) Q E s :=
  wpAny_Name (wpAny_loadName_local hk hl (hn.ns (N _ hm).1) hv h) hd
theorem store_LC {M : Model} {x : Str} {v : Value} {oC : Obj} {m₂ : Str → Option Value} {nx : Ledger} {Q : Unit → Shared → Prop} (F : Fr h₀ L s.heap m) (N : News h₀ L s.heap ((env.locals, oC) :: nx)) (hn : NsObj oC m₂) (hne : ∀ p ∈ nx, p.1 ≠ env.locals)
    (h : ∀ h' oC', Fr h₀ L h' m → News h₀ L h' ((env.locals, oC') :: nx) → NsObj oC' (fun y => if y = x then some v else m₂ y) → Q () { s with heap := h', toks := s.toks + 1 })
    (hk : env.scope.kind = .function := by rfl) (hl : env.kindOf x = some .local := by rfl) : wpAny M A (storeName env x v) Q E s := by
  have q := N _ (.head _)
  refine wpAny_storeName_local hl (hn.ns q.1) (fun h' hn' hs => ?_) (by rw [hk]; rfl)
  obtain ⟨oC', e, hn''⟩ := ns_obj hn'
  refine h h' oC' (F.change hs q.2.1 q.2.2) (fun p hp => ?_) hn''
  rcases List.mem_cons.mp hp with rfl | hp
  · exact ⟨e, q.2⟩
  · exact ⟨hs.extBut _ _ (hne p hp) (N p (.tail _ hp)).1, (N p (.tail _ hp)).2⟩
end
end Mine
end
section
open PySem PySem.W PyProof.Rows PyProof.Rows.LCg
set_option Elab.async false
namespace Mine
set_option maxRecDepth 100000
/-- an element's end, above a ledger that stays -/
inductive NEnd (h₀ : Heap) (L : Addr) (m : Str → Option Value) (NX : Ledger) (J : Prop) (s₁ s₂ : Shared) : Prop
  | mk (h' : Heap) (tk : Nat) (q1 : s₂ = { s₁ with heap := h', toks := tk }) (q2 : Fr h₀ L h' m) (q3 : News h₀ L h' NX) (q4 : J) : NEnd h₀ L m NX J s₁ s₂
section
variable {prog : Program} {w : World} {A : Around} {E : Value → Shared → Prop} {s : Shared} {h₀ : Heap} {L : Addr} {m : Str → Option Value} {env : Env}
variable {elt iter : PySem.Expr} {ifs : List PySem.Expr} {scope : Scope} {cl : List (Str × Addr)} {pos : Pos} {I : Addr} {fp : List Addr} {n : Nat} {P Md : Nat → Value → Heap → Prop} {St : Nat → Heap → Prop} {keep news : Ledger}
/-- a comprehension in an expression, without cells, its target a name, above a ledger that stays -/
theorem LC_N {x : Str} {px : Pos} {Q : Value → Shared → Prop} (K : IterOk prog w A h₀ L m (.Name x px) I fp n P Md St keep news s) (hcell : ∀ y ∈ scope.names, y.2 ≠ .cell)
    (J : Nat → List Value → Prop) (hJk : ∀ p ∈ keep, p ∈ news) (hJl : ∀ i ys, J i ys → ys.length ≤ i) (h0 : J 0 [])
    (turn : ∀ i v ys h1 h tk C oC m₂ NX, i < n → P i v h1 → J i ys → NsObj oC m₂ → m₂ x = some v → (C, oC) ∈ NX → (∀ p ∈ news, p ∈ NX) → Fr h₀ L h m → News h₀ L h NX →
      wpAny (model prog w) A (testsOf (compEnvC scope cl C env) ifs) (fun ok s₃ =>
        if ok = true then wpAny (model prog w) A (eval elt (compEnvC scope cl C env)) (fun y s₄ => NEnd h₀ L m NX (J (i + 1) (ys ++ [y])) s s₄) (fun _ _ => False) s₃
        else NEnd h₀ L m NX (J (i + 1) ys) s s₃) (fun _ _ => False) { s with heap := h, toks := tk })
    (done : ∀ D h tk ys, J n ys → (∀ p ∈ news, p.1 ≠ D) → (∀ p ∈ news, p.1 < D) → Fr h₀ L h m → News h₀ L h ((D, lst ys) :: news) → Q (.ref D) { s with heap := h, toks := tk })
    (hkd : ∀ C, (compEnvC scope cl C env).scope.kind = .function := by intro _; rfl) (hkl : ∀ C, (compEnvC scope cl C env).kindOf x = some .local := by intro _; rfl) :
    CRest prog w A E env elt (.Name x px) iter ifs scope cl pos none Q (.ref I) s := by
  refine LC_A K hcell (fun i ys nx => nx = news ∧ J i ys) (fun i ys nx h p hp => ?_) (fun i ys nx h => hJl i ys h.2) ⟨rfl, h0⟩ ?_ ?_
  · rw [h.1]; exact hJk p hp
  · rintro i v ys nx h tk oI C D oC m₂ hi hP ⟨rfl, hy⟩ hn hCo hDo hIo hnD hnC F N
    refine wpAny_assign_Name (store_LC (env := compEnvC scope cl C env) F N hn hCo (fun h8 oC8 F8 N8 hn8 => ?_) (hkd C) (hkl C))
    have fin : ∀ (Jx : Prop) s₄, NEnd h₀ L m ((C, oC8) :: (D, lst ys) :: (I, oI) :: nx) Jx s s₄ → EEnd h₀ L m (fun oC => [(C, oC)]) D ys [(I, oI)] [I, D, C] (fun nx' => nx' = nx ∧ Jx) { s with heap := h, toks := tk } s₄ := by
      rintro Jx s₄ ⟨h', tk', rfl, F', N', hJ⟩
      refine ⟨h', tk', oC8, _, nx, rfl, F', N', hn8, fun p hp => ?_, rfl, hJ⟩
      simp only [List.mem_cons, List.not_mem_nil, or_false, not_or]
      exact ⟨hIo p hp, hDo p (.tail _ hp), hCo p (.tail _ (.tail _ hp))⟩
    refine wpAny_mono (turn i v ys h h8 _ C oC8 _ _ hi hP hy hn8 (if_pos rfl) (.head _) (fun p hp => .tail _ (.tail _ (.tail _ hp))) F8 N8) (fun ok s₃ hs => ?_) fun _ _ e => e
    cases ok with
    | true => exact wpAny_mono hs (fun y s₄ k => fin _ _ k) fun _ _ e => e
    | false => exact fin _ _ hs
  · rintro D h tk ys nx ⟨rfl, hy⟩ hDo hnD F N
    exact done D h tk ys hy hDo hnD F N
end
end Mine
end
section
open PySem PySem.W PyProof.Rows PyProof.Rows.LCg
set_option Elab.async false
namespace Mine
set_option maxRecDepth 100000
section
variable {prog : Program} {w : World} {A : Around} {E : Value → Shared → Prop} {s : Shared} {h₀ : Heap} {L : Addr} {m : Str → Option Value} {env : Env}
theorem cell_LC {M : Model} {x : Str} {v : Value} {C c : Addr} {oC o : Obj} {u : Option Value} {R : Ledger} {Q : Unit → Shared → Prop} (F : Fr h₀ L s.heap m) (N : News h₀ L s.heap ((C, oC) :: (c, o) :: R)) (hu : o.data = .cell u) (hcC : @Ne Nat c C) (hcR : ∀ p ∈ R, p.1 ≠ c)
    (hc : env.cells.lookup x = some c)
    (h : ∀ h' o', Fr h₀ L h' m → News h₀ L h' ((C, oC) :: (c, o') :: R) → o'.data = .cell (some v) → Q () { s with heap := h' })
    (hk : env.scope.kind = .function := by rfl) (hl : env.kindOf x = some .cell := by rfl) : wpAny M A (storeName env x v) Q E s := by
  have q := N _ (.tail _ (.head _))
  refine wpAny_storeName_cell hk hl hc ⟨o, q.1, hu⟩ fun h' hv hs => ?_
  obtain ⟨o', e, hd⟩ := hv
  refine h h' o' (F.change hs q.2.1 q.2.2) (fun p hp => ?_) hd
  rcases List.mem_cons.mp hp with rfl | hp
  · exact ⟨hs.extBut _ _ (Ne.symm hcC) (N _ (.head _)).1, (N _ (.head _)).2⟩
  · rcases List.mem_cons.mp hp with rfl | hp
    · exact ⟨e, q.2⟩
    · exact ⟨hs.extBut _ _ (hcR p hp) (N p (.tail _ (.tail _ hp))).1, (N p (.tail _ (.tail _ hp))).2⟩
theorem tup_LC {elts : List PySem.Expr} {kk : Nat} {tp : Pos} {T : Addr} {vs : List Value} {n : Nat} {nx : Ledger} {Q : Unit → Shared → Prop} (hh : A.handled = none) (F : Fr h₀ L s.heap m) (N : News h₀ L s.heap nx) (hT : (T, tupO vs n) ∈ nx)
    (hn : (assignEach elts env).length = vs.length) (hstar : (assignEach elts env).findIdx? (·.1) = none)
    (h : ∀ h', Fr h₀ L h' m → News h₀ L h' nx → wpAny (model prog w) A (assignInOrder ((assignEach elts env).map (·.2)) vs) Q E { s with heap := h' }) :
    wpAny (model prog w) A (assign (.Tuple elts kk tp) env (.ref T)) Q E s := by
  have ht : s.heap.IsTuple T vs.toArray := ⟨_, (N _ hT).1, rfl, n, rfl⟩
  refine wpAny_assign_Tuple hh ht (by simpa using hn) hstar fun h' he => ?_
  have hL : L ≠ s.heap.objs.size := Nat.ne_of_lt F.ns.lt
  have up : ∀ b o, s.heap.get? b = some o → h'.get? b = some o := fun b o e => he b o (Nat.ne_of_lt (Heap.lt_size e)) e
  have := h h' ⟨F.ns.at' fun o e => he _ o hL e, fun b o e => up b o (F.keep b o e), F.above⟩ fun p hp => ⟨up _ _ (N p hp).1, (N p hp).2⟩
  simpa using this
theorem tupitem_at {value slice : PySem.Expr} {l : Addr} {vs : List Value} {n : Nat} {k : Int} {u : Tok} {x : Value} {Q : Value → Shared → Prop} {nx : Ledger} (N : News h₀ L s.heap nx) (hm : (l, tupO vs n) ∈ nx)
    (h0 : 0 ≤ k) (hfit : k < 2 ^ 63) (hx : vs[k.toNat]? = some x) (h : Q x s)
    (hs : subscripted slice false (.ref l) (.int k u) = operate [.ref l, .int k u] (getItem (.ref l) (.int k u)) := by with_unfolding_all rfl) :
    wpAny (model prog w) A (subscriptTail value slice (.ref l) (.int k u)) Q E s := by
  have ht : IsTup s.heap l vs.toArray := ⟨_, (N _ hm).1, rfl, n, rfl⟩
  have hlt : k.toNat < vs.length := (List.getElem?_eq_some_iff.mp hx).1
  exact tail_any ht.typeIs slot_tuple_getitem.lookup (getItem_tuple ht (by omega) hfit (j := k.toNat) (by unfold seqIndex?; simp; omega) (by simpa using hx) h) hs
theorem isList_at {h : Heap} {l : Addr} {vs : List Value} {n : Nat} {nx : Ledger} (N : News h₀ L h nx) (hm : (l, listOf vs.toArray n) ∈ nx) : h.IsList l vs.toArray := ⟨_, (N _ hm).1, rfl, n, rfl⟩
end
end Mine
end
section
open PySem PySem.W PyProof.Rows PyProof.Rows.LCg
set_option Elab.async false
namespace Mine
set_option maxRecDepth 100000
theorem fillPlain : (PySem.Challenge.rw_pg0156_01, hd.heap_39) = (PySem.Challenge.rw_pg0156_01, hd.heap_39) := by k_fill; rfl
inductive ListIn {α : Type} (G : Ledger → Value → α → Prop) (news : Ledger) (v : Value) (xs : List α) : Prop
  | mk (l : Addr) (vs : List Value) (n : Nat) (q1 : v = .ref l) (q2 : (l, listOf vs.toArray n) ∈ news) (q3 : All2 (G news) vs xs) : ListIn G news v xs
theorem ListIn.mono {α : Type} {G : Ledger → Value → α → Prop} {a b : Ledger} {v : Value} {xs : List α} (h : ListIn G a v xs) (hG : ∀ v x, G a v x → G b v x) (k : ∀ p ∈ a, p ∈ b) : ListIn G b v xs := by
  obtain ⟨l, vs, n, e, h1, h2⟩ := h
  exact ⟨l, vs, n, e, k _ h1, h2.imp hG⟩
/-- a column -/
inductive ColIn (news : Ledger) (v : Value) (c : Int × Int × Int) : Prop
  | mk (a : Addr) (t0 t1 t2 : Tok) (n : Nat) (q1 : v = .ref a) (q2 : (a, tupO [.int c.1 t0, .int c.2.1 t1, .int c.2.2 t2] n) ∈ news) : ColIn news v c
theorem ColIn.mono {a b : Ledger} {v : Value} {c : Int × Int × Int} (h : ColIn a v c) (k : ∀ p ∈ a, p ∈ b) : ColIn b v c := by
  obtain ⟨a, t0, t1, t2, n, e, h1⟩ := h
  exact ⟨a, t0, t1, t2, n, e, k _ h1⟩
abbrev NatV (_ : Ledger) (v : Value) (i : Nat) : Prop := IntIn v (i : Int)
abbrev IntV (_ : Ledger) (v : Value) (i : Int) : Prop := IntIn v i
abbrev RowV : Ledger → Value → List Int → Prop := ListIn IntV
def at3 (c : Int × Int × Int) (j : Int) : Int := if j = 0 then c.1 else if j = 1 then c.2.1 else c.2.2
def pRow (cols : List (Int × Int × Int)) (ks : List (Int × Int)) (way : List Nat) : List Int := ks.map fun p => ((way.map fun k => at3 (cols.getD k (0, 0, 0)) p.1).sum) * p.2
def plainL (cols : List (Int × Int × Int)) (ks : List (Int × Int)) (way : List Nat) : List (List Int) := (List.range (way.length + 1)).map fun n => pRow cols ks (way.take n)
theorem ints_of {ys : List Value} {xs : List Int} (h : All2 (IntV []) ys xs) : IntsAre ys xs := by
  induction h with
  | nil => exact .nil
  | cons h _ ih => obtain ⟨t, rfl⟩ := h; exact .cons _ t ih
local macro_rules | `(tactic| k_mem) => `(tactic| assumption)
local macro_rules | `(tactic| k_all) => `(tactic| assumption)
local macro_rules | `(tactic| walk_at "eval ListComp") => `(tactic| refine halt ?_)
local macro_rules | `(tactic| walk_at "pyIter ref") => `(tactic| refine halt ?_)
set_option maxHeartbeats 1000000 in
theorem law_plain_con {w p loose mean mg mb} {news : Ledger} {cv wv : Value} {lk : Addr} {cols : List (Int × Int × Int)} {way : List Nat} {ks : List (Int × Int)}
   (hc : ListIn ColIn news cv cols) (hw : ListIn NatV news wv way) (hk : KeysIn news lk ks) (hks : KeysOk ks) (hsg : ∀ p ∈ ks, p.2 = 1 ∨ p.2 = -1) (hin : ∀ k ∈ way, k < cols.length) (hz : way.length ≤ 500) (hz2 : cols.length ≤ 500) (hz3 : ks.length ≤ 500) :
   Con PP w (hd.heap_39 w.params) p loose mean mg mb 20 98 [cv, wv, .ref lk] [] news (fun add v => ListIn RowV add v (plainL cols ks way)) := by
  refine con_defC (binds := [(Str.ofString "columns", cv), (Str.ofString "way", wv), (Str.ofString "keys", .ref lk)]) (by k_is) (by k_is) (fun s X => BindsTo.of_eq rfl) rfl (by decide +kernel) ?_
  intro dp un gd outer A₀ base g L cells s B F X N Y hnl T hd hu
  k_cells Y
  obtain ⟨cl, cvs, cn, rfl, hc1, hc2⟩ := hc
  obtain ⟨wl, wvs, wn, rfl, hw1, hw2⟩ := hw
  obtain ⟨kvs, kn, hk1, hk2⟩ := hk
  have hwl := hw2.length
  k_steps
  rename_i oK oW oC dK dW dC
  replace dK : oK.data = .cell (some (.ref lk)) := dK
  replace dW : oW.data = .cell (some (.ref wl)) := dW
  replace dC : oC.data = .cell (some (.ref cl)) := dC
  refine LC_eval (by with_unfolding_all rfl) (by rfl) (by decide) ?_ 
  k_steps
  refine len_at N (.tail _ (.tail _ (.tail _ hw1))) (by omega) ?_
  k_steps
  rename_i h1 tk1 t1 u1 v1 hr F1 N1 hk1'
  generalize hm0 : (bindL _ _ _) = m0 at F1
  rename_i N0 F0
  clear N0 F0 hk1' hm0
  generalize hNW : ([(L + 1 + 1 + 1, oK), (L + 1 + 1, oW), (L + 1, oC)] ++ news : Ledger) = NW at N1
  have eK : (L + 1 + 1 + 1, oK) ∈ NW := by rw [← hNW]; exact .head _
  have eW : (L + 1 + 1, oW) ∈ NW := by rw [← hNW]; exact .tail _ (.head _)
  have eC : (L + 1, oC) ∈ NW := by rw [← hNW]; exact .tail _ (.tail _ (.head _))
  have eN : ∀ q ∈ news, q ∈ NW := fun q hq => by rw [← hNW]; exact .tail _ (.tail _ (.tail _ hq))
  refine iter_range (n := wvs.length + 1) rfl F1 N1 hr (small_s (hwl ▸ hz)) size_s (szN1 (hwl ▸ hz)) fun I fp P Md St gg K hPi => ?_
  refine LC_B (x := Str.ofString "n") (K _ _) (by rfl) (fun i ys nx => ∃ R, nx = R ++ NW ∧ Above R NW ∧ All2 (RowV R) ys ((List.range i).map fun n => pRow cols ks (way.take n))) ?_ ?_ ⟨[], rfl, Above.nil, .nil⟩ ?_ ?_
  · rintro i ys nx _ p hp
    cases hp
  · rintro i ys nx ⟨R, rfl, _, hy⟩
    rw [hy.length]; simp
  · rintro i v ys nx h tk oI C D oCn m₂ c o u hi hP ⟨R, rfl, hRa, hy⟩ hn ho hcC hcD hCo hDo hco hIo hD hC hc0 F N
    obtain ⟨ti, rfl⟩ := hPi i v _ hP
    refine wpAny_assign_Name (cell_LC F N ho hcC (fun p hp => ?_) rfl (fun h' o' F' N' d => ?_))
    · rcases List.mem_cons.mp hp with rfl | hp
      · exact fun e => hcD e.symm
      · exact hco p hp
    clear F N
    refine wpAny_tests_nil ?_
    rw [if_pos rfl]
    have q1 : ∀ p ∈ NW, p ∈ (C, oCn) :: (c, o') :: (D, lst ys) :: (I, oI) :: (R ++ NW) := fun p hp => .tail _ (.tail _ (.tail _ (.tail _ (List.mem_append_right _ hp))))
    have qc : (c, o') ∈ (C, oCn) :: (c, o') :: (D, lst ys) :: (I, oI) :: (R ++ NW) := .tail _ (.head _)
    generalize hNX : ((C, oCn) :: (c, o') :: (D, lst ys) :: (I, oI) :: (R ++ NW) : Ledger) = NX at N' q1 qc
    have qK := q1 _ eK
    have qW := q1 _ eW
    have qC := q1 _ eC
    clear eK eW eC
    refine LC_eval (by with_unfolding_all rfl) (by rfl) (by decide) ?_
    dsimp only
    walk1
    refine iter_list rfl F' N' (q1 _ (eN _ hk1)) (by rw [hk2.length]; exact szN hz3) fun I2 fp2 P2 Md2 St2 gg2 K2 hPi2 => ?_
    refine LC_B (x := Str.ofString "c") (K2 _) (by rfl) (fun i2 ys nx => nx = NX ∧ All2 (IntV []) ys ((ks.take i2).map fun p => (((way.take i).map fun k => at3 (cols.getD k (0, 0, 0)) p.1).sum) * p.2)) ?_ ?_ ⟨rfl, .nil⟩ ?_ ?_
    · rintro i2 ys nx ⟨rfl, _⟩ p hp
      rw [List.mem_singleton.mp hp]
      exact q1 _ (eN _ hk1)
    · rintro i2 ys nx ⟨rfl, hy⟩
      rw [hy.length, List.length_map]
      exact List.length_take_le _ _
    · rintro i2 v2 ys2 nx h2 tk2 oI2 C2 D2 oC2 m2 c2 o2 u2 hi2 hP2 ⟨rfl, hy2⟩ hn2 ho2 hcC2 hcD2 hCo2 hDo2 hco2 hIo2 hD2 hC2 hc02 F2 N2
      obtain ⟨⟨pc, ps⟩, hps, ta, tb0, tb1, tn, rfl, hta⟩ := hk2.get (hPi2 i2 v2 _ hP2)
      clear F' N'
      have hpc := hks _ (List.mem_of_getElem? hps)
      dsimp only at hta hpc
      refine tup_LC rfl F2 N2 (.tail _ (.tail _ (.tail _ (.tail _ (q1 _ (eN _ hta)))))) rfl rfl fun h3 F3 N3 => ?_
      clear F2 N2
      refine assignInOrder_cons (wpAny_assign_Name (cell_LC F3 N3 ho2 hcC2 (fun p hp => ?_) rfl (fun h4 o4 F4 N4 d4 => ?_)))
      · rcases List.mem_cons.mp hp with rfl | hp
        · exact fun e => hcD2 e.symm
        · exact hco2 p hp
      clear F3 N3
      refine assignInOrder_cons (wpAny_assign_Name (store_LC F4 N4 hn2 ?_ fun h5 oC5 F5 N5 hn5 => ?_))
      · intro p hp
        rcases List.mem_cons.mp hp with rfl | hp
        · exact hcC2
        · exact hCo2 p hp
      clear F4 N4
      refine assignInOrder_nil ?_
      refine wpAny_tests_nil ?_
      rw [if_pos rfl]
      dsimp only
      have r1 : ∀ p ∈ nx, p ∈ (C2, oC5) :: (c2, o4) :: (D2, lst ys2) :: (I2, oI2) :: nx := fun p hp => .tail _ (.tail _ (.tail _ (.tail _ hp)))
      have rC : (C2, oC5) ∈ (C2, oC5) :: (c2, o4) :: (D2, lst ys2) :: (I2, oI2) :: nx := .head _
      have rc : (c2, o4) ∈ (C2, oC5) :: (c2, o4) :: (D2, lst ys2) :: (I2, oI2) :: nx := .tail _ (.head _)
      replace N5 : News g L h5 ((C2, oC5) :: (c2, o4) :: (D2, lst ys2) :: (I2, oI2) :: nx) := N5
      generalize hNX2 : ((C2, oC5) :: (c2, o4) :: (D2, lst ys2) :: (I2, oI2) :: nx : Ledger) = NX2 at N5 r1 rC rc
      have rc' := r1 _ qc
      have rW := r1 _ qW
      have rCo := r1 _ qC
      have ms : (fun y => if y = Str.ofString "sign" then some (Value.int ps tb1) else m2 y) (Str.ofString "sign") = some (Value.int ps tb1) := if_pos rfl
      generalize (fun y => if y = Str.ofString "sign" then some (Value.int ps tb1) else m2 y) = m5 at hn5 ms
      k_steps
      refine LC_eval (by with_unfolding_all rfl) (by rfl) (by decide) ?_
      k_steps
      have hil : i ≤ way.length := by omega
      have hwt := hw2.take i
      refine kmk_slice_lit (its := wvs.toArray) (zs := wvs.take i) F5 N5 (isList_at N5 (r1 _ (q1 _ (eN _ hw1)))) .none (.int _ _) ?_ ?_ (by with_unfolding_all rfl) (by intro _; with_unfolding_all rfl) (by rw [List.size_toArray, hwl]; exact szN hz)
      · rw [Int.zero_add, slicePick_upto']
      intro D3 h6 F6 N6 l6
      clear F5 N5
      refine iter_list rfl F6 N6 (.head _) (by rw [hwt.length, List.length_take]; exact szN (Nat.le_trans (Nat.min_le_right _ _) hz)) fun I3 fp3 P3 Md3 St3 gg3 K3 hPi3 => ?_
      generalize hNX3 : ((D3, listOf (wvs.take i).toArray 0) :: NX2 : Ledger) = NX3 at N6 K3
      have t1 : ∀ p ∈ NX2, p ∈ NX3 := fun p hp => by rw [← hNX3]; exact .tail _ hp
      have tD : (D3, listOf (wvs.take i).toArray 0) ∈ NX3 := by rw [← hNX3]; exact .head _
      refine LC_N (K3 _) (by decide) (fun i3 ys => All2 (IntV []) ys (((way.take i).take i3).map fun k => at3 (cols.getD k (0, 0, 0)) pc)) ?_ ?_ (by simp; exact .nil) ?_ ?_
      · rintro p hp
        rw [List.mem_singleton.mp hp]
        exact tD
      · rintro i3 ys hy
        rw [hy.length, List.length_map]
        exact List.length_take_le _ _
      · rintro i3 v3 ys3 h7' h8 tk7 C3 oC8 m8 NX4 hi3 hP3 hy3 hn8 mk uC u1 F8 N8
        obtain ⟨kk, hkk, tk3, rfl⟩ := hwt.get (hPi3 i3 v3 _ hP3)
        clear F6 N6
        refine wpAny_tests_nil ?_
        rw [if_pos rfl]
        have uc := u1 _ (t1 _ rc)
        have uCo := u1 _ (t1 _ rCo)
        have hkm : kk ∈ way := List.mem_of_mem_take (List.mem_of_getElem? hkk)
        have hkl := hin kk hkm
        have hcol : cols[kk]? = some (cols.getD kk (0, 0, 0)) := by simp [hkl]
        obtain ⟨cv, hcv, ca, ct0, ct1, ct2, cn', rfl, hca⟩ := hc2.get' hcol
        dsimp only
        k_steps
        have e1 : ∀ p ∈ news, p ∈ NX4 := fun p hp => u1 _ (t1 _ (r1 _ (q1 _ (eN _ hp))))
        refine item_at N8 (e1 _ hc1) (Int.natCast_nonneg _) (fitN hkl hz2) (x := .ref ca) (by rw [Int.toNat_natCast]; exact hcv) ?_
        k_steps
        have hat : ∃ t, ([Value.int (cols.getD kk (0, 0, 0)).1 ct0, .int (cols.getD kk (0, 0, 0)).2.1 ct1, .int (cols.getD kk (0, 0, 0)).2.2 ct2])[pc.toNat]? = some (.int (at3 (cols.getD kk (0, 0, 0)) pc) t) := by
          rcases hpc with rfl | rfl | rfl
          · exact ⟨ct0, rfl⟩
          · exact ⟨ct1, rfl⟩
          · exact ⟨ct2, rfl⟩
        obtain ⟨tx, hx⟩ := hat
        refine tupitem_at N8 (e1 _ hca) (by omega) (by omega) hx ?_
        refine ⟨_, _, rfl, F8, N8, ?_⟩
        rw [take_at hkk, List.map_append]
        exact hy3.append (.cons ⟨_, rfl⟩ .nil)
      · rintro D5 h9 tk9 ys9 hy9 hn9 hl9 F9 N9
        clear F6 N6
        rw [show (List.take i wvs).length = (List.take i way).length from hwt.length, List.take_length] at hy9
        k_steps
        refine PyProof.Rows.LSm.sum_ints F9 N9 rfl (isList_at N9 (.head _)) (ints_of hy9) fun h10 tk10 t10 F10 N10 => ?_
        clear F9 N9
        replace N10 : News g L h10 NX2 := News.sub N10 fun p hp => .tail _ (t1 _ hp)
        k_steps
        have hsp := hsg _ (List.mem_of_getElem? hps)
        refine AutoIntOps.mul_0 ?_ (IntMulOk.of_right ?_)
        rotate_left
        · rcases hsp with e | e <;> rw [show ps = _ from e] <;> decide
        refine ⟨o4, _, d4, h10, _, oC5, m5, nx, rfl, F10, by rw [← hNX2] at N10; exact N10, hn5, fun p hp => ?_, rfl, ?_⟩
        · simp only [List.mem_cons, List.not_mem_nil, or_false, not_or]
          exact ⟨hIo2 p hp, Nat.ne_of_lt (hD2 p hp), Nat.ne_of_lt (hC2 p hp), Nat.ne_of_lt (hc02 p hp)⟩
        · rw [take_at hps, List.map_append]
          exact hy2.append (.cons ⟨_, rfl⟩ .nil)
    · rintro D6 h11 tk11 ys11 nx11 ⟨rfl, hy11⟩ hn11 hl11 F11 N11
      clear F' N'
      rw [hk2.length, List.take_length] at hy11
      refine ⟨o', _, d, h11, _, oCn, m₂, (D6, lst ys11) :: (R ++ NW), rfl, F11, News.sub N11 fun p hp => ?_, hn, fun p hp => ?_, (D6, lst ys11) :: R, rfl, ?_, ?_⟩
      · rw [← hNX]
        simp only [List.mem_cons, List.mem_append, List.not_mem_nil, or_false] at hp ⊢
        rcases hp with (h | h) | h | h | h | h | h <;> simp [h]
      · simp only [List.mem_cons, List.not_mem_nil, or_false, not_or]
        rcases List.mem_cons.mp hp with rfl | hp
        · refine ⟨?_, ?_, ?_, ?_⟩
          · exact Nat.ne_of_gt (hl11 (I, oI) (by rw [← hNX]; exact .tail _ (.tail _ (.tail _ (.head _)))))
          · exact Nat.ne_of_gt (hl11 (D, lst ys) (by rw [← hNX]; exact .tail _ (.tail _ (.head _))))
          · exact Nat.ne_of_gt (hl11 (C, oCn) (by rw [← hNX]; exact .head _))
          · exact Nat.ne_of_gt (hl11 (c, o') (by rw [← hNX]; exact .tail _ (.head _)))
        · exact ⟨hIo p hp, hDo p (.tail _ hp), hCo p (.tail _ (.tail _ hp)), hco p (.tail _ hp)⟩
      · exact hRa.cons fun q hq => hl11 q (q1 q hq)
      · rw [List.range_succ, List.map_append]
        exact (hy.imp fun _ _ h => h.mono (fun _ _ h => h) fun p hp => .tail _ hp).append (.cons ⟨D6, ys11, _, rfl, .head _, hy11⟩ .nil)
  · rintro D7 h12 tk12 ys12 nx12 ⟨R, rfl, hRa, hy12⟩ hn12 hl12 F12 N12
    clear F1 N1
    rw [hwl] at hy12
    refine BEnd.ret ((D7, lst ys12) :: R) F12 (News.sub N12 fun p hp => ?_) ?_ ?_
    · simp only [List.mem_cons, List.mem_append, List.cons_append] at hp ⊢
      rcases hp with h | h | h
      · exact .inl h
      · exact .inr (.inl h)
      · exact .inr (.inr (eN _ h))
    · exact (hRa.mono eN).cons fun q hq => hl12 q (eN q hq)
    · exact ⟨D7, ys12, _, rfl, .head _, hy12.imp fun _ _ h => h.mono (fun _ _ h => h) fun p hp => .tail _ hp⟩
end Mine
end
section
open PySem PySem.W PyProof.Rows PyProof.Rows.LCg
set_option Elab.async false
namespace Mine
set_option maxRecDepth 100000
theorem fillBack : (PySem.Challenge.rw_pg0156_01, hd.heap_39) = (PySem.Challenge.rw_pg0156_01, hd.heap_39) := by k_fill; rfl
theorem nats_of {ys : List Value} {xs : List Nat} (h : All2 (NatV []) ys xs) : IntsAre ys (xs.map fun (k : Nat) => (k : Int)) := by
  induction h with
  | nil => exact .nil
  | cons h _ ih => obtain ⟨t, rfl⟩ := h; exact .cons _ t ih
theorem sub_flat {α β : Type} {f : α → List β} {l l' : List α} (h : l.Sublist l') : (l.flatMap f).Sublist (l'.flatMap f) := by
  induction h with
  | slnil => exact List.Sublist.refl _
  | cons a _ ih => rw [List.flatMap_cons]; exact ih.trans (List.sublist_append_right _ _)
  | cons_cons a _ ih => rw [List.flatMap_cons, List.flatMap_cons]; exact (List.Sublist.refl _).append ih
theorem cut_mid : ∀ (p q : List Value) (y : Value), kl_cut (p ++ y :: q) p.length = some (p, y, q)
  | [], _, _ => rfl
  | x :: p, q, y => by rw [List.cons_append, List.length_cons, kl_cut, cut_mid p q y]
theorem All2.snoc_inv {α β : Type} {F : α → β → Prop} : ∀ {m : List β} {l : List α} {b : β}, All2 F l (m ++ [b]) → ∃ l' a, l = l' ++ [a] ∧ All2 F l' m ∧ F a b
  | [], _, _, .cons h .nil => ⟨[], _, rfl, .nil, h⟩
  | _ :: _, _, _, .cons h r => by
    obtain ⟨l', a, rfl, h1, h2⟩ := All2.snoc_inv r
    exact ⟨_ :: l', a, rfl, .cons h h1, h2⟩
/-- one by one from the front or the rear -/
def backN (up : List Nat → Bool) : Nat → List Nat → List Nat → List Nat
  | 0, _, found => found
  | n + 1, left, found => if up left = true then backN up n left.tail (left.headD 0 :: found) else backN up n left.dropLast (left.getLastD 0 :: found)
abbrev upOf (es : List Tot) (ks : List (Int × Int)) (left : List Nat) : Bool := decide (cmpK ks (tot (left.map fun k => es.getD k zeroT)) zeroT = 1)
local macro_rules | `(tactic| k_mem) => `(tactic| assumption)
local macro_rules | `(tactic| k_all) => `(tactic| assumption)
local macro_rules | `(tactic| walk_at "eval ListComp") => `(tactic| refine halt ?_)
local macro_rules | `(tactic| walk_at "pyIter ref") => `(tactic| refine halt ?_)
local macro_rules | `(tactic| walk_at "call ref") => `(tactic| refine halt ?_)
local macro_rules | `(tactic| walk_at "call builtin:list.pop") => `(tactic| refine halt ?_)
local macro_rules | `(tactic| walk_at "call builtin:list.insert") => `(tactic| refine halt ?_)
local macro_rules | `(tactic| walk_at "compareOp NotEq ref ref") => `(tactic| refine halt ?_)
local macro_rules | `(tactic| walk_at "exec While Compare cons nil") => `(tactic| refine halt ?_)
local macro_rules | `(tactic| walk_at "eval Name") => `(tactic| (k_here; k_dflt (refine' nameX_L ?F ?v ?_ ?a ?b; (case F => k_asm); (case a => rfl); (case b => rfl); (case v => assumption); k_whole)))
inductive BKJ (es : List Tot) (order : List Nat) (ks : List (Int × Int)) (jv : Value) (L ll fl : Addr) (oE : Obj) (news : Ledger) (n : Nat) (m : Str → Option Value) (nx : Ledger) : Prop
  | mk (left found : List Nat) (lvs fvs : List Value) (kl kf : Nat) (q1 : nx = (fl, listOf (List.toArray fvs) kf) :: (ll, listOf (List.toArray lvs) kl) :: (L + 1, oE) :: news) (q2 : All2 (NatV []) lvs left) (q3 : All2 (NatV []) fvs found) (q4 : n = left.length)
    (q5 : left.length + found.length = order.length) (q6 : left.Sublist order) (q7 : backN (upOf es ks) left.length left found = backN (upOf es ks) order.length order [])
    (q8 : m (Str.ofString "left") = some (.ref ll)) (q9 : m (Str.ofString "found") = some (.ref fl)) (q10 : m (Str.ofString "judge") = some jv) : BKJ es order ks jv L ll fl oE news n m nx
set_option maxHeartbeats 1000000 in
theorem law_back_con {w p loose mean mg mb} {news : Ledger} {ev ov jv : Value} {es : List Tot} {order : List Nat} {ks : List (Int × Int)}
   (he : TotsIn w news ev es) (ho : ListIn NatV news ov order) (hj : JudgeIn news jv ks) (hk : KeysOk ks) (hin : ∀ k ∈ order, k < es.length) (hnd : ((order.map fun k => es.getD k zeroT).flatMap (·.ls)).Nodup)
   (hz : ((order.map fun k => es.getD k zeroT).flatMap (·.ls)).length ≤ 500) (hz1 : order.length ≤ 500) (hz2 : es.length ≤ 500) :
   Con PP w (hd.heap_39 w.params) p loose mean mg mb 50 103 [ev, ov, jv] [] news (fun add v => ListIn NatV add v (backN (upOf es ks) order.length order [])) := by
  refine con_defC (binds := [(Str.ofString "entries", ev), (Str.ofString "order", ov), (Str.ofString "judge", jv)]) (by k_is) (by k_is) (fun s X => BindsTo.of_eq rfl) rfl (by decide +kernel) ?_
  intro dp un gd outer A₀ base g L cells s B F X N Y hnl T hd hu
  k_cells Y
  obtain ⟨el, evs, en, rfl, he1, he2⟩ := he
  obtain ⟨ol, ovs, on, rfl, ho1, ho2⟩ := ho
  k_steps
  rename_i oE dE
  replace dE : oE.data = .cell (some (.ref el)) := dE
  refine kmk_slice_lit (its := ovs.toArray) (zs := ovs) F N (isList_at N (.tail _ ho1)) .none .none ?_ ?_ (by with_unfolding_all rfl) (by intro _; with_unfolding_all rfl) (by rw [List.size_toArray, ho2.length]; exact szN hz1)
  · rw [slicePick_all]
  intro ll h1 F1 N1 l1
  clear F N
  k_steps
  rename_i fl hh l2 h2 F2 N2
  have d1 : @Ne Nat fl ll := Nat.ne_of_gt l2.1
  have d2 : ∀ q ∈ (L + 1, oE) :: news, q.1 < ll := l1
  have d3 : ∀ q ∈ (L + 1, oE) :: news, q.1 < fl := fun q hq => Nat.lt_trans (d2 q hq) l2.1
  refine While_inv (BKJ es order ks jv L ll fl oE news) F2 N2 ⟨order, [], ovs, [], _, _, rfl, ho2, .nil, rfl, by simp, List.Sublist.refl _, rfl, rfl, rfl, rfl⟩ ?_
  rintro n' m nx h3 tk3 F3 N3 ⟨left, found, lvs, fvs, kl, kf, rfl, hl1, hf1, rfl, hlen, hsub, hback, ml, mf, mj⟩
  clear F2 N2
  k_steps
  rename_i le h4 F4 N4 l4
  refine ne_intsK (isList_at N4 (.tail _ (.tail _ (.head _)))) (nats_of hl1) (isList_at (vs := []) N4 (.head _)) .nil (by units_room) ?_
  replace N4 : News g L h4 ((fl, listOf fvs.toArray kf) :: (ll, listOf lvs.toArray kl) :: (L + 1, oE) :: news) := News.sub N4 fun q hq => .tail _ hq
  rcases left with _ | ⟨a, r⟩
  · rw [show (!decide (List.map (fun (k : Nat) => (k : Int)) [] = [])) = false by simp]
    k_steps
    refine BEnd.ret [(fl, listOf fvs.toArray kf)] F4 (News.sub N4 fun q hq => ?_) (Above.nil.cons fun q hq => d3 q (.tail _ hq)) ⟨fl, fvs, kf, rfl, .head _, hback ▸ hf1⟩
    rcases List.mem_cons.mp hq with rfl | hq
    · exact .head _
    · exact .tail _ (.tail _ (.tail _ hq))
  · rw [show (!decide (List.map (fun (k : Nat) => (k : Int)) (a :: r) = [])) = true by simp]
    generalize hleft : a :: r = left at *
    k_steps
    refine LC_eval (by with_unfolding_all rfl) (by rfl) (by decide) ?_
    k_steps
    generalize hNX : ((fl, listOf fvs.toArray kf) :: (ll, listOf lvs.toArray kl) :: (L + 1, oE) :: news : Ledger) = NX at N4
    have qn : ∀ q ∈ news, q ∈ NX := fun q hq => by rw [← hNX]; exact .tail _ (.tail _ (.tail _ hq))
    have qE : (L + 1, oE) ∈ NX := by rw [← hNX]; exact .tail _ (.tail _ (.head _))
    have ql : (ll, listOf lvs.toArray kl) ∈ NX := by rw [← hNX]; exact .tail _ (.head _)
    have qf : (fl, listOf fvs.toArray kf) ∈ NX := by rw [← hNX]; exact .head _
    refine iter_list rfl F4 N4 ql (by rw [hl1.length]; exact szN (Nat.le_trans hsub.length_le hz1)) fun I fp P Md St gg K hPi => ?_
    refine LC_N (K _) (by decide) (fun i ys => All2 (TotIn w news) ys ((left.take i).map fun k => es.getD k zeroT)) ?_ ?_ .nil ?_ ?_
    · rintro p hp
      rw [List.mem_singleton.mp hp]
      exact ql
    · rintro i ys hy
      rw [hy.length, List.length_map]
      exact List.length_take_le _ _
    · rintro i v ys h1' h8 tk C oC8 m8 NX4 hi hP hy hn8 mk uC u1 F8 N8
      obtain ⟨kk, hkk, tk3, rfl⟩ := hl1.get (hPi i v _ hP)
      clear F4 N4
      refine wpAny_tests_nil ?_
      rw [if_pos rfl]
      have uE := u1 _ qE
      have hkl := hin kk (hsub.subset (List.mem_of_getElem? hkk))
      have hent : es[kk]? = some (es.getD kk zeroT) := by simp [hkl]
      obtain ⟨x, hx, hT⟩ := he2.get' hent
      dsimp only
      k_steps
      refine item_at N8 (u1 _ (qn _ he1)) (Int.natCast_nonneg _) (fitN hkl hz2) (x := x) (by rw [Int.toNat_natCast]; exact hx) ?_
      refine ⟨_, _, rfl, F8, N8, ?_⟩
      rw [take_at hkk, List.map_append]
      exact hy.append (.cons hT .nil)
    · rintro D5 h9 tk9 ys9 hy9 hn9 hl9 F9 N9
      clear F4 N4
      rw [hl1.length, List.take_length] at hy9
      k_steps
      have hsf := sub_flat (f := fun (t : Tot) => t.ls) (hsub.map fun k => es.getD k zeroT)
      have hsl := hsub.length_le
      refine Con.use (law_sums_con (es := left.map fun k => es.getD k zeroT) ⟨D5, ys9, _, rfl, .head _, hy9.imp fun _ _ h => h.mono fun p hp => .tail _ (qn p hp)⟩ (hnd.sublist hsf) (Nat.le_trans hsf.length_le hz) (by rw [List.length_map]; exact Nat.le_trans hsub.length_le hz1)) B F9 X N9 T (dpK hd (by decide)) (dpK hu (by decide)) ?_
      rintro rs add h10 tk10 F10 N10 U10 hs10
      clear F9 N9
      replace N10 : News g L h10 (add ++ NX) := News.sub N10 fun q hq => by
        rcases List.mem_append.mp hq with hq | hq
        · exact List.mem_append_left _ hq
        · exact List.mem_append_right _ (.tail _ hq)
      have hs10' := hs10.mono (b := add ++ NX) fun q hq => List.mem_append_left _ hq
      have hj10 := hj.mono (b := add ++ NX) fun q hq => List.mem_append_right _ (qn q hq)
      have q2l : (ll, listOf lvs.toArray kl) ∈ add ++ NX := List.mem_append_right _ ql
      have q2f : (fl, listOf fvs.toArray kf) ∈ add ++ NX := List.mem_append_right _ qf
      have hj11 := hj10
      obtain ⟨j', dj, lk, hss, tks, rfl, j1, j2, j3⟩ := hj11
      obtain ⟨sl, svs, sn, rfl, hs1, hs2⟩ := hs10'
      have hsz : svs.length = left.length + 1 := by rw [hs2.length]; simp [sumsL]
      k_steps
      rename_i h11 F11 N11
      have hlast : (sumsL (left.map fun k => es.getD k zeroT))[left.length]? = some (tot (left.map fun k => es.getD k zeroT)) := by
        rw [sumsL, List.length_map, List.getElem?_map, List.getElem?_range (Nat.lt_succ_self _), Option.map_some, ← List.length_map (f := fun k => es.getD k zeroT), List.take_length]
      have hfirst : (sumsL (left.map fun k => es.getD k zeroT))[0]? = some zeroT := by
        rw [sumsL, List.getElem?_map, List.getElem?_range (Nat.succ_pos _), Option.map_some, List.take_zero]; rfl
      obtain ⟨xl, hxl, hTl⟩ := hs2.get' hlast
      obtain ⟨xf, hxf, hTf⟩ := hs2.get' hfirst
      refine item_neg N11 hs1 (by decide) (by omega) (by decide) (x := xl) (by rw [show ((-1 : Int) + (svs.length : Int)).toNat = left.length by omega]; exact hxl) ?_
      k_steps
      refine item_at N11 hs1 (by decide) (by decide) (x := xf) (by simpa using hxf) ?_
      k_steps
      refine Con.use (compare_con hj10 hk hTl hTf) B F11 X N11 T (dpK hd (by decide)) (dpK hu (by decide)) ?_
      rintro rc add2 h12 tk12 F12 N12 U12 ⟨tc, rfl⟩
      clear F11 N11
      subst hNX
      replace N12 : News g L h12 ((fl, listOf fvs.toArray kf) :: (ll, listOf lvs.toArray kl) :: (L + 1, oE) :: news) := News.sub N12 fun q hq => List.mem_append_right _ (List.mem_append_right _ hq)
      clear hs1 hs2 j1 j2 j3 hj10 hs10 q2l q2f qf ql qE qn hTl hTf K hn9 hl9 U10 U12
      k_steps
      · rename_i q
        subst hleft
        obtain _ | @⟨_, _, lr, _, ⟨t0, rfl⟩, hr1⟩ := hl1
        have hrl := hr1.length
        simp only [List.length_cons] at hlen
        refine kl_popAt (i := 0) (k := 0) (p := []) (q := lr) (y := .int a t0) F12 N12 rfl (by simp [seqIndex?]) rfl (.tail d1 (.head fun q hq => Nat.ne_of_lt (d2 q hq))) (by simp [sizeLine_eq]; omega) fun h13 F13 N13 => ?_
        clear F12 N12
        k_steps
        refine kl_insert F13 N13 rfl (show kl_ins fvs 0 _ = _ from rfl) (.head fun q hq => ?_) (by simp [sizeLine_eq, hf1.length]; omega) fun h14 F14 N14 => ?_
        · rcases List.mem_cons.mp hq with rfl | hq
          · exact d1.symm
          · exact Nat.ne_of_lt (d3 q hq)
        clear F13 N13
        k_steps
        refine WhileStep.intro F14 N14 (n' := r.length) (Nat.lt_succ_self _) ⟨r, a :: found, lr, .int a t0 :: fvs, kl + 1, kf + 1, by simp [kl_ins], hr1, .cons ⟨_, rfl⟩ hf1, rfl, by simp; omega, (List.sublist_cons_self _ _).trans hsub, ?_, ml, mf, mj⟩
        rw [← hback, List.length_cons, backN, if_pos (decide_eq_true q)]
        rfl
      · rename_i q
        obtain ⟨dl, z, hdl⟩ : ∃ dl z, left = dl ++ [z] := ⟨left.dropLast, left.getLast (by rw [← hleft]; simp), (List.dropLast_concat_getLast _).symm⟩
        clear hleft
        subst hdl
        obtain ⟨vl, vz, rfl, hr1, ⟨t0, rfl⟩⟩ := All2.snoc_inv hl1
        have hrl := hr1.length
        simp only [List.length_append, List.length_cons, List.length_nil] at hlen
        refine kl_popAt (i := -1) (k := vl.length) (p := vl) (q := []) (y := .int z t0) F12 N12 rfl (by simp [seqIndex?]; omega) (cut_mid vl [] _) (.tail d1 (.head fun q hq => Nat.ne_of_lt (d2 q hq))) (by simp [sizeLine_eq]; omega) fun h13 F13 N13 => ?_
        clear F12 N12
        k_steps
        refine kl_insert F13 N13 rfl (show kl_ins fvs 0 _ = _ from rfl) (.head fun q hq => ?_) (by simp [sizeLine_eq, hf1.length]; omega) fun h14 F14 N14 => ?_
        · rcases List.mem_cons.mp hq with rfl | hq
          · exact d1.symm
          · exact Nat.ne_of_lt (d3 q hq)
        clear F13 N13
        k_steps
        refine WhileStep.intro F14 N14 (n' := dl.length) (by simp) ⟨dl, z :: found, vl, .int z t0 :: fvs, kl + 1, kf + 1, by simp [kl_ins], hr1, .cons ⟨_, rfl⟩ hf1, rfl, by simp; omega, (List.sublist_append_left _ _).trans hsub, ?_, ml, mf, mj⟩
        rw [← hback, List.length_append, List.length_singleton, backN, if_neg (by simpa using q)]
        simp
end Mine
end
section
open PySem PySem.W PyProof.Rows PyProof
set_option Elab.async false
namespace Mine
abbrev S (l : List Nat) : Str := ⟨l.toArray⟩
theorem len_S (l : List Nat) : (S l).length = l.length := by simp [Str.length]
theorem from_S {l : List Nat} {i : Nat} (h : i ≤ l.length) : Txt.slice (S l) (some (i : Int)) none = S (l.drop i) := by
  rw [slice_from_eq (b := (l.length : Int)) (Int.natCast_nonneg _) (by rw [len_S]; omega) (by rw [len_S])]
  have e1 : (i : Int).toNat = i := Int.toNat_natCast _
  have e2 : ((l.length : Int) - (i : Int)).toNat = l.length - i := by omega
  rw [e1, e2]
  show (⟨((l.drop i).take (l.length - i)).toArray⟩ : Str) = _
  rw [← List.length_drop, List.take_length]
theorem to_S {l : List Nat} {i : Nat} (h : i ≤ l.length) : Txt.slice (S l) none (some (i : Int)) = S (l.take i) := by
  have := beq_iff_eq.mp (slice_closes_toL (x := S l) (j := (i : Int)) (Int.natCast_nonneg _) (by rw [len_S]; omega))
  rw [this]
  simp
theorem toneg_S {l : List Nat} {k : Nat} (h0 : 0 < k) (h : k ≤ l.length) : Txt.slice (S l) none (some (-(k : Int))) = S (l.take (l.length - k)) := by
  rw [slice_to_neg (by omega), len_S, show max 0 ((l.length : Int) + -(k : Int)) = ((l.length - k : Nat) : Int) by omega]
  exact to_S (Nat.sub_le _ _)
theorem item_S {l : List Nat} {i : Nat} {c : Nat} (h : l[i]? = some c) : Txt.item (S l) (i : Int) = S [c] :=
  PyProof.Rows.item_meets (Int.natCast_nonneg _) (by simpa using h)
theorem itemneg_S {l : List Nat} {k : Nat} {c : Nat} (h0 : k < l.length) (h : l.reverse[k]? = some c) : Txt.item (S l) (-(k : Int) - 1) = S [c] := by
  have := beq_iff_eq.mp (item_closes_neg (x := S l) (i := -(k : Int) - 1) (j := ((l.length - 1 - k : Nat) : Int)) (by omega) (by rw [len_S]; omega) (by rw [len_S]; omega))
  rw [this]
  rw [List.getElem?_reverse h0] at h
  simp [h]
theorem one_S {c d : Nat} : S [c] = S [d] ↔ c = d := by
  constructor
  · intro h
    have := congrArg (fun s => s.cps.toList) h
    simpa using this
  · rintro rfl; rfl
/-- the common beginning's length -/
def cpl : List Nat → List Nat → Nat
  | x :: xs, y :: ys => if x = y then cpl xs ys + 1 else 0
  | _, _ => 0
theorem cpl_lt : ∀ {a b : List Nat} {i : Nat}, i < cpl a b → ∃ c, a[i]? = some c ∧ b[i]? = some c
  | [], _, _, h => by simp [cpl] at h
  | _ :: _, [], _, h => by simp [cpl] at h
  | x :: xs, y :: ys, i, h => by
    rw [cpl] at h
    by_cases e : x = y
    · rw [if_pos e] at h
      cases i with
      | zero => exact ⟨x, rfl, by rw [e]; rfl⟩
      | succ i => simpa using cpl_lt (Nat.lt_of_succ_lt_succ h)
    · rw [if_neg e] at h; exact absurd h (Nat.not_lt_zero _)
theorem cpl_at : ∀ {a b : List Nat} {c d : Nat}, a[cpl a b]? = some c → b[cpl a b]? = some d → c ≠ d
  | [], _, _, _, h, _ => by simp [cpl] at h
  | _ :: _, [], _, _, _, h => by simp [cpl] at h
  | x :: xs, y :: ys, c, d, h, h' => by
    rw [cpl] at h h'
    by_cases e : x = y
    · rw [if_pos e] at h h'
      exact cpl_at (by simpa using h) (by simpa using h')
    · rw [if_neg e] at h h'
      simp at h h'
      rw [← h, ← h']; exact e
theorem cpl_le : ∀ (a b : List Nat), cpl a b ≤ a.length ∧ cpl a b ≤ b.length
  | [], _ => by simp [cpl]
  | _ :: _, [] => by simp [cpl]
  | x :: xs, y :: ys => by
    have := cpl_le xs ys
    rw [cpl]
    split <;> simp <;> omega
theorem all_S (l : List Nat) : Txt.slice (S l) none none = S l := by
  have h : Txt.slice (S l) none none = Txt.slice (S l) none (some ((S l).length : Int)) := by
    show StrLaws.sliceText (S l) none none = StrLaws.sliceText (S l) none (some ((S l).length : Int))
    unfold StrLaws.sliceText
    rw [StrLaws.sliceIdx_none_hi none]
  rw [h, len_S, to_S (Nat.le_refl _), List.take_length]
theorem suf_lt {a b : List Nat} {k : Nat} (hk : k ≤ cpl a.reverse b.reverse) (h1 : k < a.length) (h2 : k < b.length) (h : (Txt.item (S a) (-(k : Int) - 1) == Txt.item (S b) (-(k : Int) - 1)) = true) : k < cpl a.reverse b.reverse := by
  rcases Nat.lt_or_ge k (cpl a.reverse b.reverse) with q | q
  · exact q
  · have e : k = cpl a.reverse b.reverse := by omega
    have x1 : a.reverse[k]? = some (a.reverse[k]'(by simpa using h1)) := List.getElem?_eq_getElem _
    have x2 : b.reverse[k]? = some (b.reverse[k]'(by simpa using h2)) := List.getElem?_eq_getElem _
    rw [itemneg_S h1 x1, itemneg_S h2 x2] at h
    exact absurd (one_S.mp (beq_iff_eq.mp h)) (cpl_at (a := a.reverse) (b := b.reverse) (by rw [← e]; exact x1) (by rw [← e]; exact x2))
theorem suf_eq {a b : List Nat} {k : Nat} (hk : k ≤ cpl a.reverse b.reverse) (h : (Txt.item (S a) (-(k : Int) - 1) == Txt.item (S b) (-(k : Int) - 1)) = false) : k = cpl a.reverse b.reverse := by
  rcases Nat.lt_or_ge k (cpl a.reverse b.reverse) with q | q
  · have hl := cpl_le a.reverse b.reverse
    rw [List.length_reverse, List.length_reverse] at hl
    obtain ⟨c, x1, x2⟩ := cpl_lt q
    rw [itemneg_S (by omega) x1, itemneg_S (by omega) x2] at h
    simp at h
  · omega
/-- one row of the table -/
def cellL (b c : Nat) (dist res old : Int) : Int := min (min res old + 2) (dist + if b = c then 0 else 2)
def rowGo (b : Nat) : List Nat → List Int → Int → Int → List Int
  | c :: cs, o :: os, dist, res => cellL b c dist res o :: rowGo b cs os o (cellL b c dist res o)
  | _, _, _, _ => []
def dpGo (as : List Nat) : List Nat → Int → List Int → Int → Int
  | [], _, _, res => res
  | b :: bs, k, row, _ => dpGo as bs (k + 1) (rowGo b as row (2 * k) (2 * k)) ((rowGo b as row (2 * k) (2 * k)).getLastD (2 * k))
def dpF (as bs : List Nat) : Int := dpGo as bs 0 ((List.range as.length).map fun (i : Nat) => 2 * ((i : Int) + 1)) 0
def levL (a b : List Nat) : Int :=
  if a = b then 0 else
  let a1 := a.drop (cpl a b)
  let b1 := b.drop (cpl a b)
  let cs := cpl a1.reverse b1.reverse
  let a2 := a1.take (a1.length - cs)
  let b2 := b1.take (b1.length - cs)
  if a2 = [] ∨ b2 = [] then 2 * ((a2.length : Int) + b2.length) else
  if b2.length < a2.length then dpF b2 a2 else dpF a2 b2
end Mine
end
section
namespace Mine
set_option maxRecDepth 100000
def pick : List Bool → List Nat → List Nat
  | true :: m, x :: xs => x :: pick m xs
  | false :: m, _ :: xs => pick m xs
  | _, _ => []
def masks : Nat → List (List Bool)
  | 0 => [[]]
  | n + 1 => (masks n).flatMap fun m => [true :: m, false :: m]
theorem lev_all : ∀ n ∈ [3, 4, 5, 6, 7], ∀ m ∈ masks n, levL ((List.range n).map (97 + ·)) (pick m ((List.range n).map (97 + ·))) = 2 * ((n : Int) - (pick m ((List.range n).map (97 + ·))).length) := by
  decide +kernel
end Mine
end
section
open PySem PySem.W PyProof.Rows
set_option Elab.async false
namespace Mine
set_option maxRecDepth 100000
theorem all2_of_get {α β : Type} {P : α → β → Prop} : ∀ {vs : List α} {xs : List β}, vs.length = xs.length → (∀ (j : Nat) (v : α) (x : β), vs[j]? = some v → xs[j]? = some x → P v x) → All2 P vs xs
  | [], [], _, _ => .nil
  | [], _ :: _, h, _ => by simp at h
  | _ :: _, [], h, _ => by simp at h
  | v :: vs, x :: xs, h, k => .cons (k 0 v x rfl rfl) (all2_of_get (by simpa using h) fun j v x hv hx => k (j + 1) v x (by simpa using hv) (by simpa using hx))
section
variable {prog : Program} {w : World} {A : Around} {E : Value → Shared → Prop} {s : Shared} {h₀ : Heap} {L : Addr} {m : Str → Option Value}
theorem list_range_N {r : Addr} {a b c : Int} {t u v : Tok} {n : Nat} {news : Ledger} {Q : Value → Shared → Prop} (hh : A.handled = none) (F : Fr h₀ L s.heap m) (N : News h₀ L s.heap news)
    (hr : IsRange s.heap r a b c t u v) (hsmall : Builtin.Range.small a b c = true) (hn : Builtin.Range.rangeSize a b c = (n : Int)) (hlen : n ≤ 2 ^ 24)
    (h : ∀ (D : Addr) k h' tk (vs : List Value), Fr h₀ L h' m → News h₀ L h' ((D, listOf vs.toArray k) :: news) → (∀ q ∈ news, q.1 < D) → All2 IntIn vs ((List.range n).map fun (i : Nat) => a + (i : Int) * c) → Q (.ref D) { s with heap := h', toks := tk }) :
    wpAny (model prog w) A (call (.type "list") [.ref r]) Q E s := by
  refine call_list_range hh hr hsmall hn hlen fun h' tk acc' c' hk hD hacc => ?_
  refine h _ c' h' tk acc'.toList (F.keeps hk) (news_pushed F N hk (by first | (rw [Array.toArray_toList]; exact hD) | simpa using hD) rfl) (fun q hq => Heap.lt_size (N q hq).1) (all2_of_get ?_ fun j v x hv hx => ?_)
  · rw [Array.length_toList, hacc.1]; simp
  · obtain ⟨tk, rfl⟩ := hacc.2 j v (by rw [← Array.getElem?_toList]; exact hv)
    have hj : j < n := by
      have := (List.getElem?_eq_some_iff.mp hx).1
      simpa using this
    rw [List.getElem?_map, List.getElem?_range hj] at hx
    obtain rfl := Option.some.inj hx
    exact ⟨_, rfl⟩
end
theorem range_two (k : Nat) (h : k ≤ 10) : Builtin.Range.small 2 (2 * ((k : Int) + 1)) 2 = true ∧ Builtin.Range.rangeSize 2 (2 * ((k : Int) + 1)) 2 = (k : Int) := by
  have : ∀ k : Fin 11, Builtin.Range.small 2 (2 * ((k.val : Int) + 1)) 2 = true ∧ Builtin.Range.rangeSize 2 (2 * ((k.val : Int) + 1)) 2 = (k.val : Int) := by decide
  exact this ⟨k, by omega⟩
end Mine
end
section
open PySem PySem.W PyProof.Rows PyProof.Rows.LCg
set_option Elab.async false
namespace Mine
set_option maxRecDepth 100000
theorem fillLev : (PySem.Challenge.rw_pg0156_01, hd.heap_39) = (PySem.Challenge.rw_pg0156_01, hd.heap_39) := by k_fill; rfl
local macro_rules | `(tactic| k_mem) => `(tactic| assumption)
local macro_rules | `(tactic| k_all) => `(tactic| assumption)
local macro_rules | `(tactic| walk_at "eval Name") => `(tactic| (k_here; k_dflt (refine' ld ?k1 ?k2 ?_; (case k1 => k_asm); (case k2 => assumption); k_whole)))
theorem ine_t {a b : Int} {P Q : Prop} (h : a ≠ b) (p : P) : if (a != b) = true then P else Q := by rw [if_pos (by simpa using h)]; exact p
theorem ine_f {a b : Int} {P Q : Prop} (h : a = b) (q : Q) : if (a != b) = true then P else Q := by rw [if_neg (by simpa using h)]; exact q
theorem ine_s {a b : Int} {P Q : Prop} (p : a ≠ b → P) (q : a = b → Q) : if (a != b) = true then P else Q := by
  by_cases h : a = b
  · exact ine_f h (q h)
  · exact ine_t h (p h)
local macro_rules | `(tactic| walk_at "loadName") => `(tactic| (k_here; k_dflt (refine' ldn ?k1 ?k2 ?_; (case k1 => k_asm); (case k2 => assumption); k_whole)))
local macro_rules | `(tactic| walk_at "call ref") => `(tactic| refine halt ?_)
set_option maxHeartbeats 8000000 in
theorem sub_con {w p loose mean mg mb} {news : Ledger} {a b : Str} {ta tb : Tok} (ha : KXs.Still a) (hb : KXs.Still b) (hla : a.length ≤ 1000) (hlb : b.length ≤ 1000) :
   Con PP w (hd.heap_39 w.params) p loose mean mg mb 20 72 [.str a ta, .str b tb] [] news (fun _ v => IntIn v (if a = b then 0 else 2)) := by
  refine con_def (binds := [(Str.ofString "ch_a", .str a ta), (Str.ofString "ch_b", .str b tb)]) (by k_is) (by k_is) (fun s X => BindsTo.of_eq rfl) (locs rfl) ?_
  intro dp un gd outer A₀ base g L s B F X N T hd hu
  k_steps
  · rename_i q
    dsimp only
    exact BEnd.ret [] F N Above.nil ⟨_, by rw [if_pos (by simpa using q)]⟩
  · rename_i q _ _ _ _
    dsimp only
    exact BEnd.ret [] (by k_asm) (by k_asm) Above.nil ⟨_, by rw [if_neg (by simpa using q)]⟩
local macro_rules | `(tactic| walk_at "call type:list") => `(tactic| refine halt ?_)
local macro_rules | `(tactic| walk_at "exec For Name Call cons nil") => `(tactic| refine halt ?_)
local macro_rules | `(tactic| walk_at "pyIter ref") => `(tactic| refine halt ?_)
local macro_rules | `(tactic| walk_at "subscriptTail Name Name ref int") => `(tactic| refine halt ?_)
local macro_rules | `(tactic| walk_at "setItem ref int") => `(tactic| refine halt ?_)
theorem intsAre_of {vs : List Value} {ns : List Int} (h : All2 IntIn vs ns) : IntsAre vs ns := by
  induction h with
  | nil => exact .nil
  | cons h _ ih => obtain ⟨t, rfl⟩ := h; exact .cons _ t ih
theorem All2.set {α β : Type} {F : α → β → Prop} {l : List α} {m : List β} (h : All2 F l m) (i : Nat) {a : α} {b : β} (f : F a b) : All2 F (l.set i a) (m.set i b) := by
  induction h generalizing i with
  | nil => exact .nil
  | cons h r ih =>
    cases i with
    | zero => exact .cons f r
    | succ i => exact .cons h (ih i)
theorem set_mid {α : Type} (o c : α) (rest : List α) : ∀ dn : List α, (dn ++ o :: rest).set dn.length c = (dn ++ [c]) ++ rest
  | [] => rfl
  | d :: dn => by rw [List.cons_append, List.length_cons, List.set_cons_succ, set_mid o c rest dn]; rfl
section
variable {prog : Program} {w : World} {A : Around} {E : Value → Shared → Prop} {s : Shared} {h₀ : Heap} {L : Addr} {m : Str → Option Value} {news : Ledger}
theorem min_two_M {a b : Int} {t u : Tok} {Q : Value → Shared → Prop} (hh : A.handled = none) (F : Fr h₀ L s.heap m) (N : News h₀ L s.heap news)
    (h : ∀ h' tk tm, Fr h₀ L h' m → News h₀ L h' news → Q (.int (min a b) tm) { s with heap := h', toks := tk }) :
    wpAny (model prog w) A (call (.builtin "min") [.int a t, .int b u]) Q E s :=
  min_two_N hh F N fun h' tk F' N' => by
    rw [show (if b < a then b else a) = min a b by split <;> omega]
    exact h h' tk _ F' N'
end
local macro_rules | `(tactic| walk_at "call builtin:min") => `(tactic| (refine min_two_M (by with_unfolding_all rfl) (by k_asm) (by k_asm) (fun h6 t6 k6 F6 N6 => ?_)))
/-- a sign in the context: stand still at an If -/
def Mark : Prop := True
local macro_rules | `(tactic| walk_at "exec If") => `(tactic| ((rename Mark => hM'); refine halt ?_))
inductive LEnd (g : Heap) (L : Addr) (news : Ledger) (P : (Str → Option Value) → Prop) (s : Shared) (f : Flow) (s' : Shared) : Prop
  | mk (q1 : f = .next) (h : Heap) (tk : Nat) (m : Str → Option Value) (q2 : s' = { s with heap := h, toks := tk }) (q3 : Fr g L h m) (q4 : News g L h news) (q5 : P m) : LEnd g L news P s f s'
local macro_rules | `(tactic| walk_at "exec While BoolOp cons nil") => `(tactic| refine halt ?_)
local macro_rules | `(tactic| walk_at "ite") => `(tactic| first | with_reducible refine ite_tt ?_ | with_reducible refine ite_ff ?_ | refine ite_pos (by decide) ?_ | refine ite_neg (by decide) ?_ | refine ine_t (by assumption) ?_ | refine ine_f (by assumption) ?_ | (refine ine_s ?_ ?_ <;> intro _ <;> try dsimp only) | (refine split_bool ?_ ?_ <;> intro _ <;> try dsimp only))
/-- a fact that no arithmetic is to look at -/
def Hid (p : Prop) : Prop := p
theorem hid {p : Prop} (h : p) : Hid p := h
section
variable {l : List Nat} {k : Nat}
theorem big_S (h : l.length ≤ 10) : ((S l).length : Int) < 9223372036854775808 := by rw [len_S]; omega
theorem drop10 (h : l.length ≤ 10) : (l.drop k).length ≤ 10 := by rw [List.length_drop]; exact Nat.le_trans (Nat.sub_le _ _) h
theorem take10 (h : l.length ≤ 10) : (l.take k).length ≤ 10 := by rw [List.length_take]; exact Nat.le_trans (Nat.min_le_right _ _) h
theorem drop_len : (S (l.drop k)).length = l.length - k := by rw [len_S, List.length_drop]
theorem take_len : (S (l.take (l.length - k))).length = l.length - k := by rw [len_S, List.length_take]; exact Nat.min_eq_left (Nat.sub_le _ _)
end
/-- an index that fits -/
def ItOk (x : Str) (i : Int) : Prop := fitsSsize i = true ∧ -(x.length : Int) ≤ i ∧ i < x.length
section
variable {l : List Nat} {x k j : Nat} (hl : l.length ≤ 10)
include hl
theorem itok_S {i : Int} (h1 : -(l.length : Int) ≤ i) (h2 : i < l.length) : ItOk (S l) i :=
  ⟨fitsSsize_of (N := 9223372036854775808) (by omega) (by omega) (Int.le_refl _), by rw [len_S]; exact h1, by rw [len_S]; exact h2⟩
theorem itok_idx (h : j < l.length) : ItOk (S l) (0 + (j : Int)) := itok_S hl (by omega) (by omega)
theorem itok_pre (f : x = l.length - k) (q : (x : Int) ≠ 0) : ItOk (S l) k := itok_S hl (by omega) (by omega)
theorem itok_neg (f : x = l.length - k) (q : (x : Int) ≠ 0) : ItOk (S l) (-(k : Int) - 1) := itok_S hl (by omega) (by omega)
theorem itok_neg0 (f : x = l.length) (q : (x : Int) ≠ 0) : ItOk (S l) (0 - 1) := itok_S hl (by omega) (by omega)
end
section
variable {prog : Program} {w : World} {A : Around} {E : Value → Shared → Prop} {s : Shared} {Q : Value → Shared → Prop} {value slice : PySem.Expr} {x : Str} {t u : Tok} {i : Int}
theorem item_okD (z : ItOk x i) (h : Q (.str (Txt.item x i) s.toks) { s with toks := s.toks + 1 })
    (hs : subscripted slice false (.str x t) (.int i u) = operate [.str x t, .int i u] (getItem (.str x t) (.int i u)) := by with_unfolding_all rfl)
    (ht : ∀ r, letTemporaryGo value (.str x t) r = pure () := by intro _; with_unfolding_all rfl) :
    wpAny (model prog w) A (subscriptTail value slice (.str x t) (.int i u)) Q E s := item_str z.1 z.2.1 z.2.2 (fun _ => h) hs ht
theorem item_okI {P : Prop} (g : P → ItOk x i) (p : P) (h : Q (.str (Txt.item x i) s.toks) { s with toks := s.toks + 1 })
    (hs : subscripted slice false (.str x t) (.int i u) = operate [.str x t, .int i u] (getItem (.str x t) (.int i u)) := by with_unfolding_all rfl)
    (ht : ∀ r, letTemporaryGo value (.str x t) r = pure () := by intro _; with_unfolding_all rfl) :
    wpAny (model prog w) A (subscriptTail value slice (.str x t) (.int i u)) Q E s := item_okD (g p) h hs ht
end
local macro_rules | `(tactic| walk_at "subscriptTail Name Name str int") => `(tactic| first | (refine item_okD ?g ?_; (case g => assumption)) | (refine' item_okI ?g ?q ?_; (case g => assumption); (case q => assumption)))
local macro_rules | `(tactic| walk_at "subscriptTail Name BinOp str int") => `(tactic| first | (refine item_okD ?g ?_; (case g => assumption)) | (refine' item_okI ?g ?q ?_; (case g => assumption); (case q => assumption)))
section
variable {prog : Program} {w : World} {A : Around} {E : Value → Shared → Prop} {s : Shared} {Q : Value → Shared → Prop} {value slice : PySem.Expr} {h₀ : Heap} {L : Addr} {m : Str → Option Value} {news : Ledger}
theorem slice_all {l : List Nat} {t : Tok} (F : Fr h₀ L s.heap m) (N : News h₀ L s.heap news) (hl : l.length ≤ 10) (h : ∀ h' t' k, Fr h₀ L h' m → News h₀ L h' news → Q (.str (S l) t') { s with heap := h', toks := k })
    (hs : subscripted slice false (.str (S l) t) (.ref s.heap.objs.size) = operate [.ref s.heap.objs.size, .str (S l) t] (getItem (.str (S l) t) (.ref s.heap.objs.size)) := by with_unfolding_all rfl)
    (ht : ∀ r, letTemporaryGo value (.str (S l) t) r = pure () := by intro _; with_unfolding_all rfl) :
    wpAny (model prog w) A (subscriptTail value slice (.str (S l) t) (.ref s.heap.objs.size)) Q E { s with heap := s.heap.push { cls := .type "slice", data := .fields #[.none, .none, .none] } } :=
  slice_strN_nn_len F N (fun h' t' k F' N' _ => by rw [all_S]; exact h h' t' k F' N') hs ht (by rw [len_S, sizeLine_eq]; omega)
theorem slice_from {l : List Nat} {t : Tok} {i : Nat} {ui : Tok} (hi : i ≤ l.length) (F : Fr h₀ L s.heap m) (N : News h₀ L s.heap news) (hl : l.length ≤ 10) (h : ∀ h' t' k, Fr h₀ L h' m → News h₀ L h' news → Q (.str (S (l.drop i)) t') { s with heap := h', toks := k })
    (hs : subscripted slice false (.str (S l) t) (.ref s.heap.objs.size) = operate [.ref s.heap.objs.size, .str (S l) t] (getItem (.str (S l) t) (.ref s.heap.objs.size)) := by with_unfolding_all rfl)
    (ht : ∀ r, letTemporaryGo value (.str (S l) t) r = pure () := by intro _; with_unfolding_all rfl) :
    wpAny (model prog w) A (subscriptTail value slice (.str (S l) t) (.ref s.heap.objs.size)) Q E { s with heap := s.heap.push { cls := .type "slice", data := .fields #[.int i ui, .none, .none] } } :=
  slice_strN_sn_len F N (fun h' t' k F' N' _ => by rw [from_S hi]; exact h h' t' k F' N') hs ht (by rw [len_S, sizeLine_eq]; omega)
theorem slice_neg {l : List Nat} {t : Tok} {i : Nat} {uj : Tok} (h0 : 0 < i) (hi : i ≤ l.length) (F : Fr h₀ L s.heap m) (N : News h₀ L s.heap news) (hl : l.length ≤ 10) (h : ∀ h' t' k, Fr h₀ L h' m → News h₀ L h' news → Q (.str (S (l.take (l.length - i))) t') { s with heap := h', toks := k })
    (hs : subscripted slice false (.str (S l) t) (.ref s.heap.objs.size) = operate [.ref s.heap.objs.size, .str (S l) t] (getItem (.str (S l) t) (.ref s.heap.objs.size)) := by with_unfolding_all rfl)
    (ht : ∀ r, letTemporaryGo value (.str (S l) t) r = pure () := by intro _; with_unfolding_all rfl) :
    wpAny (model prog w) A (subscriptTail value slice (.str (S l) t) (.ref s.heap.objs.size)) Q E { s with heap := s.heap.push { cls := .type "slice", data := .fields #[.none, .int (-(i : Int)) uj, .none] } } :=
  slice_strN_ns_len F N (fun h' t' k F' N' _ => by rw [toneg_S h0 hi]; exact h h' t' k F' N') hs ht (by rw [len_S, sizeLine_eq]; omega)
end
local macro_rules | `(tactic| walk_at "subscriptTail Name Slice str ref") => `(tactic| (refine slice_from (by assumption) (by k_asm) (by k_asm) (by assumption) (fun h6 t6 k6 F6 N6 => ?_) (by with_unfolding_all rfl) (by intro _; with_unfolding_all rfl); try dsimp only))
local macro_rules | `(tactic| walk_at "subscriptTail Name Slice str ref") => `(tactic| (refine slice_neg (by assumption) (by assumption) (by k_asm) (by k_asm) (by assumption) (fun h6 t6 k6 F6 N6 => ?_) (by with_unfolding_all rfl) (by intro _; with_unfolding_all rfl); try dsimp only))
local macro_rules | `(tactic| walk_at "subscriptTail Name Slice str ref") => `(tactic| (refine slice_all (by k_asm) (by k_asm) (by first | assumption | omega) (fun h6 t6 k6 F6 N6 => ?_) (by with_unfolding_all rfl) (by intro _; with_unfolding_all rfl); try dsimp only))
section
variable (la lb : List Nat) (ta tb t : Tok)
inductive LW1 (news : Ledger) (n : Nat) (m : Str → Option Value) (nx : Ledger) : Prop
  | mk (pre : Nat) (tp : Tok) (q1 : pre + n = cpl la lb) (q2 : nx = news) (q3 : m (Str.ofString "pre") = some (.int pre tp)) (q4 : m (Str.ofString "a") = some (.str (S la) ta)) (q5 : m (Str.ofString "b") = some (.str (S lb) tb)) (q6 : m (Str.ofString "max_cost") = some (.int 99 t)) : LW1 news n m nx
inductive LE1 (m' : Str → Option Value) : Prop
  | mk (tp : Tok) (q1 : m' (Str.ofString "pre") = some (.int (cpl la lb : Nat) tp)) (q2 : m' (Str.ofString "a") = some (.str (S la) ta)) (q3 : m' (Str.ofString "b") = some (.str (S lb) tb)) (q4 : m' (Str.ofString "max_cost") = some (.int 99 t)) : LE1 m'
end
section
variable (a1 b1 : List Nat) (cs : Nat) (t : Tok)
inductive LE2 (m' : Str → Option Value) : Prop
  | mk (tp tx ty : Tok) (q1 : m' (Str.ofString "post") = some (.int (-(cs : Int)) tp)) (q2 : m' (Str.ofString "a") = some (.str (S a1) tx)) (q3 : m' (Str.ofString "b") = some (.str (S b1) ty)) (q4 : m' (Str.ofString "max_cost") = some (.int 99 t)) : LE2 m'
inductive LW2 (news : Ledger) (n : Nat) (m : Str → Option Value) (nx : Ledger) : Prop
  | mk (k : Nat) (tp tx ty : Tok) (q1 : k + n = cs) (q2 : nx = news) (q3 : m (Str.ofString "post") = some (.int (-(k : Int)) tp)) (q4 : m (Str.ofString "a") = some (.str (S a1) tx)) (q5 : m (Str.ofString "b") = some (.str (S b1) ty)) (q6 : m (Str.ofString "max_cost") = some (.int 99 t)) : LW2 news n m nx
inductive LE3 (tp ty : Tok) (m' : Str → Option Value) : Prop
  | mk (tx : Tok) (q1 : m' (Str.ofString "post") = some (.int (-(cs : Int)) tp)) (q2 : m' (Str.ofString "a") = some (.str (S (a1.take (a1.length - cs))) tx)) (q3 : m' (Str.ofString "b") = some (.str (S b1) ty)) (q4 : m' (Str.ofString "max_cost") = some (.int 99 t)) : LE3 tp ty m'
inductive LE4 (tx5 : Tok) (m' : Str → Option Value) : Prop
  | mk (ty : Tok) (q1 : m' (Str.ofString "a") = some (.str (S (a1.take (a1.length - cs))) tx5)) (q2 : m' (Str.ofString "b") = some (.str (S (b1.take (b1.length - cs))) ty)) (q3 : m' (Str.ofString "max_cost") = some (.int 99 t)) : LE4 tx5 m'
end
inductive LE5 (la lb : List Nat) (t : Tok) (m' : Str → Option Value) : Prop
  | mk (x y : List Nat) (tx ty : Tok) (q1 : levL la lb = dpF x y) (q2 : x.length ≤ y.length) (q3 : x.length ≠ 0) (q4 : y.length ≤ 10) (q5 : KXs.Still (S x)) (q6 : KXs.Still (S y)) (q7 : m' (Str.ofString "a") = some (.str (S x) tx)) (q8 : m' (Str.ofString "b") = some (.str (S y) ty)) (q9 : m' (Str.ofString "max_cost") = some (.int 99 t)) : LE5 la lb t m'
section
variable (x y : List Nat) (tx ty t : Tok) (D : Addr) (news : Ledger)
inductive LWo (i : Nat) (m : Str → Option Value) (nx : Ledger) : Prop
  | mk (vs : List Value) (kr : Nat) (row : List Int) (res : Int) (tr : Tok) (q1 : nx = (D, listOf (List.toArray vs) kr) :: news) (q2 : All2 IntIn vs row) (q3 : row.length = x.length) (q4 : dpGo x (y.drop i) i row res = dpF x y) (q5 : m (Str.ofString "result") = some (.int res tr)) (q6 : m (Str.ofString "row") = some (.ref D)) (q7 : m (Str.ofString "a") = some (.str (S x) tx)) (q8 : m (Str.ofString "b") = some (.str (S y) ty)) (q9 : m (Str.ofString "max_cost") = some (.int 99 t)) : LWo i m nx
inductive LWi (i bb : Nat) (I : Addr) (oI : Obj) (row : List Int) (j : Nat) (m : Str → Option Value) (nx : Ledger) : Prop
  | mk (vs : List Value) (kr : Nat) (dn rest : List Int) (dist res mn : Int) (td tr tm tb : Tok) (q1 : nx = (I, oI) :: (D, listOf (List.toArray vs) kr) :: news) (q2 : All2 IntIn vs (dn ++ rest)) (q3 : dn.length = j) (q4 : rest.length = x.length - j)
    (q5 : dn ++ rowGo bb (x.drop j) rest dist res = rowGo bb x row (2 * (i : Int)) (2 * (i : Int))) (q6 : res = dn.getLastD (2 * (i : Int))) (q7 : j ≠ 0 → mn ≤ 2 * (i : Int) + 2)
    (q8 : m (Str.ofString "distance") = some (.int dist td)) (q9 : m (Str.ofString "result") = some (.int res tr)) (q10 : m (Str.ofString "minimum") = some (.int mn tm)) (q11 : m (Str.ofString "bchar") = some (.str (S [bb]) tb)) (q12 : m (Str.ofString "row") = some (.ref D)) (q13 : m (Str.ofString "a") = some (.str (S x) tx)) (q14 : m (Str.ofString "b") = some (.str (S y) ty)) (q15 : m (Str.ofString "max_cost") = some (.int 99 t)) : LWi i bb I oI row j m nx
end
section
variable {x n k cs l r j : Nat}
theorem lt_of_sub (f : x = n - k) (q : (x : Int) ≠ 0) : k < n := by omega
theorem le_of_sub0 (f : x = n - k) (q : (x : Int) = 0) : n ≤ k := by omega
theorem eq_of (h1 : l ≤ k) (h2 : cs ≤ l) (h3 : k + n = cs) : k = cs := by omega
theorem step_a (h : k + n = cs) (q : k < cs) : n - 1 < n := by omega
theorem step_b (h : k + n = cs) (q : k < cs) : k + 1 + (n - 1) = cs := by omega
theorem pos_of (f : x = n) (q : (x : Int) ≠ 0) : 0 < n := by omega
theorem zero_of (f : x = n) (q : (x : Int) = 0) (h : cs ≤ n) : 0 = cs := by omega
theorem neg_ne (h : ¬ k = 0) : (-(k : Int)) ≠ 0 := by omega
theorem neg_suc : -(k : Int) - 1 = -((k + 1 : Nat) : Int) := by omega
theorem no40 (h : n ≤ 10) (q : 40 < (n : Int)) : False := by omega
theorem no99 (h : n ≤ 10) (q : 99 < ((n : Int) - (x : Int)) * 2) : False := by omega
theorem small_n (h : n ≤ 10) : Builtin.Range.small 0 n 1 = true := small_one (by decide) (by decide) (by omega) (by omega)
theorem size_n : Builtin.Range.rangeSize 0 (n : Int) 1 = (n : Int) := by rw [rangeSize_nat]; omega
theorem len24 (h : n ≤ 10) : n ≤ 2 ^ 24 := Nat.le_trans h (by decide)
theorem ten (h : n ≤ k) (q : k ≤ 10) : n ≤ 10 := Nat.le_trans h q
theorem tail_len (h : r + 1 = x - j) : r = x - (j + 1) := by omega
theorem idx0 : 0 ≤ (0 : Int) + (j : Int) := by omega
theorem idx1 (h : j < n) (q : n ≤ 10) : (0 : Int) + (j : Int) < 2 ^ 63 := by omega
theorem idx2 : ((0 : Int) + (j : Int)).toNat = j := by omega
theorem idx3 (h : l = n) (q : j < n) : (0 : Int) + (j : Int) < (l : Int) := by omega
end
set_option maxHeartbeats 2000000 in
theorem lev_con {w p loose mean mg mb} {news : Ledger} {la lb : List Nat} {ta tb t : Tok} (ha : KXs.Still (S la)) (hb : KXs.Still (S lb)) (hla : la.length ≤ 10) (hlb : lb.length ≤ 10) :
   Con PP w (hd.heap_39 w.params) p loose mean mg mb 30 79 [.str (S la) ta, .str (S lb) tb, .int 99 t] [] news (fun _ v => IntIn v (levL la lb)) := by
  refine con_def (binds := [(Str.ofString "a", .str (S la) ta), (Str.ofString "b", .str (S lb) tb), (Str.ofString "max_cost", .int 99 t)]) (by k_is) (by k_is) (fun s X => BindsTo.of_eq rfl) (locs rfl) ?_
  intro dp un gd outer A₀ base g L s B F X N T hd hu
  k_steps
  · rename_i q
    dsimp only
    have e : la = lb := by have := congrArg (fun s : Str => s.cps.toList) (beq_iff_eq.mp q); simpa using this
    exact BEnd.ret [] F N Above.nil ⟨_, by rw [levL, if_pos e]⟩
  rename_i q0 h1 F1 N1
  have hne : la ≠ lb := fun e => by rw [e] at q0; simp at q0
  have hcl := cpl_le la lb
  refine wpAny_mono (Q := LEnd g L news (LE1 la lb ta tb t) s) ?_ ?_ (fun _ _ e => e)
  · refine While_inv (n₀ := cpl la lb) (LW1 la lb ta tb t news) F1 N1 ⟨0, _, Nat.zero_add _, rfl, rfl, rfl, rfl, rfl⟩ ?_
    rintro n' m nx h2 tk2 F2 N2 ⟨pre, tp, hpre, rfl, mp, ma, mb, mc⟩
    clear F1 N1
    have hp1 : pre ≤ cpl la lb := Nat.le.intro hpre
    have s1 := Nat.le_trans hp1 hcl.1
    have s2 := Nat.le_trans hp1 hcl.2
    have e1 := hid (drop_len (l := la) (k := pre))
    have e2 := hid (drop_len (l := lb) (k := pre))
    have g1 : ((S (la.drop pre)).length : Int) ≠ 0 → ItOk (S la) (pre : Int) := itok_pre hla e1
    have g2 : ((S (lb.drop pre)).length : Int) ≠ 0 → ItOk (S lb) (pre : Int) := itok_pre hlb e2
    have b1 := big_S (drop10 (k := pre) hla)
    have b2 := big_S (drop10 (k := pre) hlb)
    replace hpre := hid hpre
    replace hp1 := hid hp1
    replace hcl := hid hcl
    k_steps
    · have q3 : (Txt.item (S la) (pre : Int) == Txt.item (S lb) (pre : Int)) = true := by assumption
      have q1 : ((S (la.drop pre)).length : Int) ≠ 0 := by assumption
      have q2 : ((S (lb.drop pre)).length : Int) ≠ 0 := by assumption
      have r1 := lt_of_sub e1 q1
      have r2 := lt_of_sub e2 q2
      have hlt : pre < cpl la lb := by
        rcases Nat.lt_or_ge pre (cpl la lb) with h | h
        · exact h
        · have e : pre = cpl la lb := Nat.le_antisymm hp1 h
          have x1 : la[cpl la lb]? = some la[pre] := by rw [← e]; exact List.getElem?_eq_getElem r1
          have x2 : lb[cpl la lb]? = some lb[pre] := by rw [← e]; exact List.getElem?_eq_getElem r2
          rw [item_S (List.getElem?_eq_getElem r1 : la[pre]? = some la[pre]), item_S (List.getElem?_eq_getElem r2 : lb[pre]? = some lb[pre])] at q3
          exact absurd (one_S.mp (beq_iff_eq.mp q3)) (cpl_at x1 x2)
      rename_i h9 F9 N9
      exact WhileStep.intro F9 N9 (n' := n' - 1) (step_a hpre hlt) ⟨pre + 1, _, step_b hpre hlt, rfl, rfl, ma, mb, mc⟩
    · have q3 : (Txt.item (S la) (pre : Int) == Txt.item (S lb) (pre : Int)) = false := by assumption
      have e : pre = cpl la lb := by
        rcases Nat.lt_or_ge pre (cpl la lb) with h | h
        · obtain ⟨c, x1, x2⟩ := cpl_lt h
          rw [item_S x1, item_S x2] at q3
          simp at q3
        · exact Nat.le_antisymm hp1 h
      exact ⟨rfl, _, _, _, rfl, by k_asm, by k_asm, ⟨tp, e ▸ mp, ma, mb, mc⟩⟩
    · have q2 : ((S (lb.drop pre)).length : Int) = 0 := by assumption
      have e : pre = cpl la lb := eq_of (le_of_sub0 e2 q2) (And.right hcl) hpre
      exact ⟨rfl, _, _, _, rfl, by k_asm, by k_asm, ⟨tp, e ▸ mp, ma, mb, mc⟩⟩
    · have q1 : ((S (la.drop pre)).length : Int) = 0 := by assumption
      have e : pre = cpl la lb := eq_of (le_of_sub0 e1 q1) (And.left hcl) hpre
      exact ⟨rfl, _, _, _, rfl, by k_asm, by k_asm, ⟨tp, e ▸ mp, ma, mb, mc⟩⟩
  · rintro f s' ⟨rfl, h3, tk3, m3, rfl, F3, N3, tp, mp, ma, mb, mc⟩
    clear F1 N1
    dsimp only
    have hc1 := hcl.1
    have hc2 := hcl.2
    k_steps
    rename_i h4 F4 N4
    have ha1 : KXs.Still (S (la.drop (cpl la lb))) := fun c hc => ha c (by simp at hc ⊢; exact List.mem_of_mem_drop hc)
    have hb1 : KXs.Still (S (lb.drop (cpl la lb))) := fun c hc => hb c (by simp at hc ⊢; exact List.mem_of_mem_drop hc)
    have hl1 : (la.drop (cpl la lb)).length ≤ 10 := Nat.le_trans (by rw [List.length_drop]; exact Nat.sub_le _ _) (by assumption)
    have hl2 : (lb.drop (cpl la lb)).length ≤ 10 := Nat.le_trans (by rw [List.length_drop]; exact Nat.sub_le _ _) (by assumption)
    have hfin : levL la lb = levL la lb := rfl
    conv at hfin => rhs; rw [levL, if_neg hne]
    generalize la.drop (cpl la lb) = a1 at F4 ha1 hl1 hfin
    generalize lb.drop (cpl la lb) = b1 at F4 hb1 hl2 hfin
    have la2 := hid (len_S a1)
    have lb2 := hid (len_S b1)
    have hcl1 := cpl_le a1.reverse b1.reverse
    rw [List.length_reverse, List.length_reverse] at hcl1
    generalize hcs : cpl a1.reverse b1.reverse = cs at hcl1 hfin
    replace hcl1 := hid hcl1
    refine wpAny_mono (Q := LEnd g L news (LE2 a1 b1 cs t) s) ?_ ?_ (fun _ _ e => e)
    · refine While_inv (n₀ := cs) (LW2 a1 b1 cs t news) F4 N4 ⟨0, _, _, _, Nat.zero_add _, rfl, rfl, rfl, rfl, mc⟩ ?_
      rintro n' m nx h5 tk5 F5 N5 ⟨k, tp, tx, ty, hk, rfl, mp, ma, mb, mc⟩
      clear F4 N4
      clear hfin hne hcl hla hlb q0 ha hb ha1 hb1
      have hcs' := hid (Nat.le_of_eq hcs.symm)
      replace hcs := hid hcs
      replace hk := hid hk
      by_cases hk0 : k = 0
      · subst hk0
        replace mp : m (Str.ofString "post") = some (.int 0 tp) := mp
        have g1 : ((S a1).length : Int) ≠ 0 → ItOk (S a1) (0 - 1) := itok_neg0 hl1 la2
        have g2 : ((S b1).length : Int) ≠ 0 → ItOk (S b1) (0 - 1) := itok_neg0 hl2 lb2
        have c1' := big_S hl1
        have c2' := big_S hl2
        k_steps
        · have q1 : ((S a1).length : Int) ≠ 0 := by assumption
          have q2 : ((S b1).length : Int) ≠ 0 := by assumption
          have q3 : (Txt.item (S a1) (0 - 1) == Txt.item (S b1) (0 - 1)) = true := by assumption
          have q := suf_lt (a := a1) (b := b1) (k := 0) (Nat.zero_le _) (pos_of la2 q1) (pos_of lb2 q2) q3
          rw [show cpl a1.reverse b1.reverse = cs from hcs] at q
          rename_i h9 F9 N9
          exact WhileStep.intro F9 N9 (n' := n' - 1) (step_a hk q) ⟨1, _, _, _, step_b hk q, rfl, rfl, ma, mb, mc⟩
        · have q3 : (Txt.item (S a1) (0 - 1) == Txt.item (S b1) (0 - 1)) = false := by assumption
          have q := suf_eq (a := a1) (b := b1) (k := 0) (Nat.zero_le _) q3
          rw [show cpl a1.reverse b1.reverse = cs from hcs] at q
          subst q
          exact ⟨rfl, _, _, _, rfl, by k_asm, by k_asm, ⟨tp, tx, ty, mp, ma, mb, mc⟩⟩
        · have q2 : ((S b1).length : Int) = 0 := by assumption
          have q : 0 = cs := zero_of lb2 q2 (And.right hcl1)
          subst q
          exact ⟨rfl, _, _, _, rfl, by k_asm, by k_asm, ⟨tp, tx, ty, mp, ma, mb, mc⟩⟩
        · have q2 : ((S a1).length : Int) = 0 := by assumption
          have q : 0 = cs := zero_of la2 q2 (And.left hcl1)
          subst q
          exact ⟨rfl, _, _, _, rfl, by k_asm, by k_asm, ⟨tp, tx, ty, mp, ma, mb, mc⟩⟩
      · have hkc := hid (Nat.le.intro hk)
        have z0 := Nat.pos_of_ne_zero hk0
        have z1 := Nat.le_trans hkc (And.left hcl1)
        have z2 := Nat.le_trans hkc (And.right hcl1)
        have f0 : (-(k : Int)) ≠ 0 := neg_ne hk0
        have f1 := hid (take_len (l := a1) (k := k))
        have f2 := hid (take_len (l := b1) (k := k))
        have b1' := big_S (take10 (k := a1.length - k) hl1)
        have b2' := big_S (take10 (k := b1.length - k) hl2)
        have g1 : ((S (a1.take (a1.length - k))).length : Int) ≠ 0 → ItOk (S a1) (-(k : Int) - 1) := itok_neg hl1 f1
        have g2 : ((S (b1.take (b1.length - k))).length : Int) ≠ 0 → ItOk (S b1) (-(k : Int) - 1) := itok_neg hl2 f2
        k_steps
        · have q1 : ((S (a1.take (a1.length - k))).length : Int) ≠ 0 := by assumption
          have q2 : ((S (b1.take (b1.length - k))).length : Int) ≠ 0 := by assumption
          have q3 : (Txt.item (S a1) (-(k : Int) - 1) == Txt.item (S b1) (-(k : Int) - 1)) = true := by assumption
          have q := suf_lt (a := a1) (b := b1) (k := k) (Nat.le_trans hkc hcs') (lt_of_sub f1 q1) (lt_of_sub f2 q2) q3
          rw [show cpl a1.reverse b1.reverse = cs from hcs] at q
          rename_i h9 F9 N9
          exact WhileStep.intro F9 N9 (n' := n' - 1) (step_a hk q) ⟨k + 1, _, _, _, step_b hk q, rfl, (if_pos rfl).trans (congrArg (fun i => some (Value.int i _)) neg_suc), ma, mb, mc⟩
        · have q3 : (Txt.item (S a1) (-(k : Int) - 1) == Txt.item (S b1) (-(k : Int) - 1)) = false := by assumption
          have q := suf_eq (a := a1) (b := b1) (k := k) (Nat.le_trans hkc hcs') q3
          rw [show cpl a1.reverse b1.reverse = cs from hcs] at q
          subst q
          exact ⟨rfl, _, _, _, rfl, by k_asm, by k_asm, ⟨tp, tx, ty, mp, ma, mb, mc⟩⟩
        · have q2 : ((S (b1.take (b1.length - k))).length : Int) = 0 := by assumption
          have q : k = cs := eq_of (le_of_sub0 f2 q2) (And.right hcl1) hk
          subst q
          exact ⟨rfl, _, _, _, rfl, by k_asm, by k_asm, ⟨tp, tx, ty, mp, ma, mb, mc⟩⟩
        · have q1 : ((S (a1.take (a1.length - k))).length : Int) = 0 := by assumption
          have q : k = cs := eq_of (le_of_sub0 f1 q1) (And.left hcl1) hk
          subst q
          exact ⟨rfl, _, _, _, rfl, by k_asm, by k_asm, ⟨tp, tx, ty, mp, ma, mb, mc⟩⟩
    · rintro f s' ⟨rfl, h3, tk3, m3, rfl, F3, N3, tp, tx, ty, mp, ma, mb, mc⟩
      clear F4 N4
      dsimp only at hfin ⊢
      rw [hcs] at hfin
      have b1' := big_S (take10 (k := a1.length - cs) hl1)
      have b2' := big_S (take10 (k := b1.length - cs) hl2)
      replace hfin := hid hfin
      clear hne hcl hla hlb q0 ha hb hcs
      walk1
      refine wpAny_mono (Q := LEnd g L news (LE3 a1 b1 cs t tp ty) s) ?_ ?_ (fun _ _ e => e)
      · by_cases hk0 : cs = 0
        · replace mp : m3 (Str.ofString "post") = some (.int 0 tp) := by rw [mp, hk0]; rfl
          k_steps
          rename_i h9 F9 N9
          exact ⟨rfl, _, _, _, rfl, F9, N9, ⟨_, by rw [hk0]; exact mp, (if_pos rfl).trans (by rw [hk0, Nat.sub_zero, List.take_length]), mb, mc⟩⟩
        · have f0 : (-(cs : Int)) ≠ 0 := neg_ne hk0
          have z0 := Nat.pos_of_ne_zero hk0
          have z1 := (And.left hcl1)
          k_steps
          rename_i h9 F9 N9
          exact ⟨rfl, _, _, _, rfl, F9, N9, ⟨_, mp, if_pos rfl, mb, mc⟩⟩
      rintro f s' ⟨rfl, h5, tk5, m5, rfl, F5, N5, tx5, mp5, ma5, mb5, mc5⟩
      clear F3 N3 mp ma mb mc
      dsimp only
      walk1
      refine wpAny_mono (Q := LEnd g L news (LE4 a1 b1 cs t tx5) s) ?_ ?_ (fun _ _ e => e)
      · by_cases hk0 : cs = 0
        · replace mp : m5 (Str.ofString "post") = some (.int 0 tp) := by rw [mp5, hk0]; rfl
          k_steps
          rename_i h9 F9 N9
          exact ⟨rfl, _, _, _, rfl, F9, N9, ⟨_, ma5, (if_pos rfl).trans (by rw [hk0, Nat.sub_zero, List.take_length]), mc5⟩⟩
        · have f0 : (-(cs : Int)) ≠ 0 := neg_ne hk0
          have z0 := Nat.pos_of_ne_zero hk0
          have z1 := (And.right hcl1)
          k_steps
          rename_i h9 F9 N9
          exact ⟨rfl, _, _, _, rfl, F9, N9, ⟨_, ma5, if_pos rfl, mc5⟩⟩
      rintro f s' ⟨rfl, h6, tk6, m6, rfl, F6, N6, ty6, ma6, mb6, mc6⟩
      clear F5 N5 mp5 ma5 mb5 mc5
      dsimp only
      have ha2 : KXs.Still (S (a1.take (a1.length - cs))) := fun c hc => ha1 c (by simp at hc ⊢; exact List.mem_of_mem_take hc)
      have hb2 : KXs.Still (S (b1.take (b1.length - cs))) := fun c hc => hb1 c (by simp at hc ⊢; exact List.mem_of_mem_take hc)
      have hl3 : (a1.take (a1.length - cs)).length ≤ 10 := Nat.le_trans (by rw [List.length_take]; exact Nat.min_le_right _ _) (by assumption)
      have hl4 : (b1.take (b1.length - cs)).length ≤ 10 := Nat.le_trans (by rw [List.length_take]; exact Nat.min_le_right _ _) (by assumption)
      generalize a1.take (a1.length - cs) = a2 at ma6 ha2 hl3 hfin
      generalize b1.take (b1.length - cs) = b2 at mb6 hb2 hl4 hfin
      have la3 := len_S a2
      have lb3 := len_S b2
      clear ha1 hb1 hl1 hl2 la2 lb2 hcl1 b1' b2'
      have b1' := big_S hl3
      have b2' := big_S hl4
      have e1 : a2 = [] ↔ a2.length = 0 := List.length_eq_zero_iff.symm
      have e2 : b2 = [] ↔ b2.length = 0 := List.length_eq_zero_iff.symm
      walk1
      walk1
      have hM : Mark := trivial
      replace la3 := hid la3
      replace lb3 := hid lb3
      k_steps
      all_goals (try (rename Mark => hM; clear hM))
      all_goals (replace la3 : (S a2).length = a2.length := la3; replace lb3 : (S b2).length = b2.length := lb3)
      all_goals (replace hfin : levL la lb = _ := hfin)
      · have q1 : (!((S a2).length : Int) != 0) = true := by assumption
        have q : a2.length = 0 := by rw [la3] at q1; simpa using q1
        dsimp only
        refine BEnd.ret [] F6 N6 Above.nil ⟨_, congrArg (fun i => Value.int i _) ?_⟩
        rw [hfin, if_pos (.inl (e1.mpr q)), la3, lb3]
      · have q1 : (!((S b2).length : Int) != 0) = true := by assumption
        have q : b2.length = 0 := by rw [lb3] at q1; simpa using q1
        dsimp only
        refine BEnd.ret [] F6 N6 Above.nil ⟨_, congrArg (fun i => Value.int i _) ?_⟩
        rw [hfin, if_pos (.inr (e2.mpr q)), la3, lb3]
      have q1 : (!((S a2).length : Int) != 0) = false := by assumption
      have q2 : (!((S b2).length : Int) != 0) = false := by assumption
      rw [la3] at q1
      rw [lb3] at q2
      have p1 : a2.length ≠ 0 := by simpa using q1
      have p2 : b2.length ≠ 0 := by simpa using q2
      rw [if_neg (by rw [e1, e2]; exact not_or.mpr ⟨p1, p2⟩)] at hfin
      clear q1 q2 e1 e2
      unfold Halt
      walk1
      have hM : Mark := trivial
      replace la3 := hid la3
      replace lb3 := hid lb3
      replace hfin := hid hfin
      k_steps
      all_goals (try (rename Mark => hM; clear hM))
      all_goals (replace la3 : (S a2).length = a2.length := la3; replace lb3 : (S b2).length = b2.length := lb3)
      · have q1 : decide (40 < ((S a2).length : Int)) = true := by assumption
        rw [la3] at q1
        exact (no40 hl3 (of_decide_eq_true q1)).elim
      · have q1 : decide (40 < ((S b2).length : Int)) = true := by assumption
        rw [lb3] at q1
        exact (no40 hl4 (of_decide_eq_true q1)).elim
      unfold Halt
      refine wpAny_mono (Q := LEnd g L news (LE5 la lb t) s) ?_ ?_ (fun _ _ e => e)
      · walk1
        replace la3 := hid la3
        replace lb3 := hid lb3
        k_steps
        all_goals (replace la3 : (S a2).length = a2.length := la3; replace lb3 : (S b2).length = b2.length := lb3; replace hfin : levL la lb = _ := hfin)
        · have q1 : decide (((S b2).length : Int) < ((S a2).length : Int)) = true := by assumption
          rw [la3, lb3] at q1
          have q := of_decide_eq_true q1
          rw [if_pos (Int.ofNat_lt.mp q)] at hfin
          rename_i h9 F9 N9
          exact ⟨rfl, _, _, _, rfl, F9, News.sub N9 fun _ h => .tail _ h, b2, a2, _, _, hfin, Nat.le_of_lt (Int.ofNat_lt.mp q), p2, hl3, hb2, ha2, rfl, rfl, mc6⟩
        · have q1 : decide (((S b2).length : Int) < ((S a2).length : Int)) = false := by assumption
          rw [la3, lb3] at q1
          have q := of_decide_eq_false q1
          have q' := fun h => q (Int.ofNat_lt.mpr h)
          rw [if_neg q'] at hfin
          exact ⟨rfl, _, _, _, rfl, F6, N6, a2, b2, _, _, hfin, Nat.le_of_not_lt q', p1, hl4, ha2, hb2, ma6, mb6, mc6⟩
      rintro f s' ⟨rfl, h7, tk7, m7, rfl, F7, N7, x, y, tx, ty, hxy, hle, hx0, hy10, hx, hy, ma, mb, mc⟩
      clear F6 N6 ma6 mb6 mc6 hfin p1 p2 hl3 hl4 ha2 hb2 la3 lb3 b1' b2'
      dsimp only
      have lx := hid (len_S x)
      have ly := hid (len_S y)
      have bx := big_S (ten hle hy10)
      have by_ := big_S hy10
      replace hxy := hid hxy
      k_steps
      · have q1 : decide (99 < (((S y).length : Int) - ((S x).length : Int)) * 2) = true := by assumption
        rw [len_S, len_S] at q1
        exact (no99 hy10 (of_decide_eq_true q1)).elim
      rename_i hk8 h8 tk8 t8 u8 v8 hr F8 N8 hkp
      rw [len_S x] at hr
      obtain ⟨r1, r2⟩ := range_two x.length (ten hle hy10)
      refine list_range_N (n := x.length) rfl F8 N8 hr r1 r2 (len24 (ten hle hy10)) fun D kr h9 tk9 vs F9 N9 hlt hvs => ?_
      dsimp only
      k_steps
      rename_i h10 F10 N10
      clear hkp hr r1 r2
      refine For_turns F10 ?_
      k_steps
      rename_i h11 tk11 t11 u11 v11 hr F11 N11 hkp
      rw [len_S y] at hr
      clear hkp
      refine turns_range (n := y.length) rfl F11 N11 hr (small_n hy10) size_n (fun I i a' b' s Q E v _ q => wpAny_pure q) (LWo x y tx ty t D news) ⟨vs, kr, _, 0, _, rfl, hvs, by simp, ?_, rfl, rfl, ma, mb, mc⟩ ?_ ?_
      · have e : (List.range x.length).map (fun (i : Nat) => 2 + (i : Int) * 2) = (List.range x.length).map (fun (i : Nat) => 2 * ((i : Int) + 1)) := List.map_congr_left fun i _ => by omega
        rw [e, List.drop_zero]; rfl
      · rintro i ti m nx h tk I oI hi ⟨vs, kr, row, res, tr, rfl, hvs, hrl, hdp, mr, mrow, ma, mb, mc⟩ hoff hlt' F N
        replace F : Fr g L h m := F
        replace N : News g L h ((I, oI) :: (D, listOf vs.toArray kr) :: news) := N
        have hbi : y[i]? = some y[i] := List.getElem?_eq_getElem hi
        generalize y[i] = bb at hbi
        have eb : Txt.item (S y) (0 + (i : Int)) = S [bb] := by rw [Int.zero_add]; exact item_S hbi
        rw [drop_at hbi, dpGo] at hdp
        have g1 := itok_idx hy10 hi
        replace hdp := hid hdp
        replace hrl := hid hrl
        k_steps
        rename_i h12 F12 N12
        rw [eb, show (0 + (i : Int)) * 2 = 2 * (i : Int) by rw [Int.zero_add, Int.mul_comm]] at F12
        clear hr
        refine For_turns F12 ?_
        k_steps
        rename_i h13 tk13 t13 u13 v13 hr F13 N13 hkp
        rw [len_S x] at hr
        clear hkp
        refine turns_range (n := x.length) rfl F13 N13 hr (small_n (ten hle hy10)) size_n (fun I i a' b' s Q E v _ q => wpAny_pure q) (LWi x y tx ty t D news i bb I oI row) ⟨vs, kr, [], row, 2 * (i : Int), 2 * (i : Int), _, _, _, _, _, rfl, hvs, rfl, by simpa using (show row.length = x.length from hrl), by simp, rfl, fun h => absurd rfl h, rfl, rfl, rfl, rfl, mrow, ma, mb, mc⟩ ?_ ?_
        · rintro j tj m nx h tk I2 oI2 hj ⟨vs, kr, dn, rest, dist, res, mn, td, tr, tm, tb, rfl, hvs, hdl, hrl2, hrow, hres, hmn, md, mr, mm, mbc, mrow, ma, mb, mc⟩ hoff2 hlt2 F N
          replace F : Fr g L h m := F
          replace N : News g L h ((I2, oI2) :: (I, oI) :: (D, listOf vs.toArray kr) :: news) := N
          have hxj : x[j]? = some x[j] := List.getElem?_eq_getElem hj
          generalize x[j] = cc at hxj
          have ec : Txt.item (S x) (0 + (j : Int)) = S [cc] := by rw [Int.zero_add]; exact item_S hxj
          rw [drop_at hxj] at hrow
          rcases rest with _ | ⟨o, rest⟩
          · exact absurd hrl2 (Nat.ne_of_lt (Nat.sub_pos_of_lt hj))
          have g2 := itok_idx (ten hle hy10) hj
          replace hdl := hid hdl
          replace hrl2 := hid hrl2
          replace hres := hid hres
          replace hmn := hid hmn
          k_steps
          rename_i h14 F14 N14
          rw [ec]
          have hsb : KXs.Still (S [bb]) := fun c hc => hy c (by simp at hc ⊢; rw [hc]; exact List.mem_of_getElem? hbi)
          have hsc : KXs.Still (S [cc]) := fun c hc => hx c (by simp at hc ⊢; rw [hc]; exact List.mem_of_getElem? hxj)
          refine Con.use (sub_con hsb hsc (by simp [Str.length]) (by simp [Str.length])) B F14 X N14 T (dpK hd (by decide)) (dpK hu (by decide)) ?_
          rintro r add h15 tk15 F15 N15 U ⟨tsub, rfl⟩
          replace N15 : News g L h15 ((I2, oI2) :: (I, oI) :: (D, listOf vs.toArray kr) :: news) := News.sub N15 fun q hq => List.mem_append_right _ hq
          clear F14 N14 U
          rw [show (if S [bb] = S [cc] then (0 : Int) else 2) = if bb = cc then 0 else 2 by simp only [one_S]]
          generalize hsub : (if bb = cc then (0 : Int) else 2) = sub
          replace hsub := hid hsub
          dsimp only
          k_steps
          replace hdl : dn.length = j := hdl
          obtain ⟨xo, hxo, to, rfl⟩ := hvs.get' (i := j) (b := o) (by rw [List.getElem?_append_right (Nat.le_of_eq hdl), hdl, Nat.sub_self]; rfl)
          refine item_at (x := .int o to) (by assumption) (.tail _ (.tail _ (.head _))) idx0 (idx1 hj (ten hle hy10)) (by rw [idx2]; exact hxo) ?_
          replace hdl := hid hdl
          k_steps
          unfold Halt
          rename_i n16 tm16 h16 F16 N16
          replace hdl : dn.length = j := hdl
          replace hrl2 : (o :: rest).length = x.length - j := hrl2
          replace hres : res = dn.getLastD (2 * (i : Int)) := hres
          replace hmn : j ≠ 0 → mn ≤ 2 * (i : Int) + 2 := hmn
          have hcell : min (min res o + 2) (dist + sub) = cellL bb cc dist res o := by rw [cellL, show (if bb = cc then (0 : Int) else 2) = sub from hsub]
          have hmin : min (min res o + 2) (dist + sub) ≤ res + 2 := Int.le_trans (Int.min_le_left _ _) (Int.add_le_add_right (Int.min_le_left _ _) 2)
          rw [rowGo] at hrow
          rw [hcell] at F16 hmin ⊢
          generalize cellL bb cc dist res o = cl at *
          have j0 : (0 + (j : Int)).toNat = j := idx2
          refine ksa_set F16 N16 (.tail (fun e => hoff2 _ (.tail _ (.head _)) e.symm) (.tail (fun e => hoff _ (.head _) e.symm) (.head fun q hq => Nat.ne_of_lt (hlt q hq)))) (intsAre_of hvs) idx0 (idx3 (by rw [List.length_append, List.length_cons, hdl, ← List.length_cons (a := o), hrl2]; exact Nat.add_sub_of_le (Nat.le_of_lt hj)) hj) (idx1 hj (ten hle hy10)) fun h17 F17 N17 _ _ _ => ?_
          clear F16 N16
          rw [j0] at N17
          have hvs' := hvs.set j (a := .int cl tm16) (b := cl) ⟨_, rfl⟩
          rw [← hdl, set_mid, hdl] at hvs'
          have hmn0 : j = 0 → cl ≤ 2 * (i : Int) + 2 := fun e => by
            have : dn = [] := List.length_eq_zero_iff.mp (hdl.trans e)
            rw [this] at hres
            simp at hres
            rw [hres] at hmin
            exact hmin
          have hrow' : (dn ++ [cl]) ++ rowGo bb (x.drop (j + 1)) rest o cl = rowGo bb x row (2 * (i : Int)) (2 * (i : Int)) := by rw [List.append_assoc]; exact hrow
          have hdl' : Hid ((dn ++ [cl]).length = j + 1) := by rw [Hid]; simp [hdl]
          have hrl2' := hid (tail_len hrl2)
          have hres' : Hid (cl = (dn ++ [cl]).getLastD (2 * (i : Int))) := by rw [Hid]; simp
          replace hdl := hid hdl
          replace hrl2 := hid hrl2
          replace hres := hid hres
          replace hmn := hid hmn
          replace hmn0 := hid hmn0
          replace hcell := hid hcell
          have hoff3 : ∀ p ∈ ((I, oI) :: (D, listOf (vs.set j (.int cl tm16)).toArray kr) :: news : Ledger), p.1 ∉ [I2] := by
            intro p hp he
            rw [List.mem_singleton] at he
            rcases List.mem_cons.mp hp with rfl | hp
            · exact hoff2 _ (.head _) he
            rcases List.mem_cons.mp hp with rfl | hp
            · exact hoff2 _ (.tail _ (.head _)) he
            · exact hoff2 _ (.tail _ (.tail _ hp)) he
          k_steps
          · have q := of_decide_eq_true (by assumption : decide (cl < mn) = true)
            rename_i h18 F18 N18
            exact ⟨_, _, _, _, rfl, F18, N18, hoff3, _, kr, dn ++ [cl], rest, o, cl, cl, _, _, _, _, rfl, hvs', hdl', hrl2', hrow', hres', fun _ => by by_cases e : j = 0; exact hmn0 e; exact Int.le_trans (Int.le_of_lt q) (hmn e), rfl, rfl, rfl, mbc, mrow, ma, mb, mc⟩
          · have q := of_decide_eq_false (by assumption : decide (cl < mn) = false)
            exact ⟨_, _, _, _, rfl, F17, N17, hoff3, _, kr, dn ++ [cl], rest, o, cl, mn, _, _, _, _, rfl, hvs', hdl', hrl2', hrow', hres', fun _ => by by_cases e : j = 0; exact Int.le_trans (Int.not_lt.mp q) (hmn0 e); exact hmn e, rfl, rfl, mm, mbc, mrow, ma, mb, mc⟩
        · rintro h tk m nx ⟨vs, kr, dn, rest, dist, res, mn, td, tr, tm, tb, rfl, hvs, hdl, hrl2, hrow, hres, hmn, md, mr, mm, mbc, mrow, ma, mb, mc⟩ F N
          replace F : Fr g L h m := F
          replace N : News g L h ((I, oI) :: (D, listOf vs.toArray kr) :: news) := N
          have hr0 : rest = [] := List.length_eq_zero_iff.mp (hrl2.trans (Nat.sub_self _))
          subst hr0
          rw [List.drop_length, rowGo, List.append_nil] at hrow
          rw [List.append_nil] at hvs
          clear F13 N13
          replace hmn := hid hmn
          replace hres := hid hres
          replace hdl := hid hdl
          k_steps
          · have q := of_decide_eq_true (by assumption : decide (99 < mn) = true)
            have := (show x.length ≠ 0 → mn ≤ 2 * (i : Int) + 2 from hmn) hx0
            omega
          · refine ⟨_, _, _, _, rfl, F, N, fun p hp he => ?_, vs, kr, dn, res, _, rfl, hvs, hdl, ?_, mr, mrow, ma, mb, mc⟩
            · rw [List.mem_singleton] at he
              rcases List.mem_cons.mp hp with rfl | hp
              · exact hoff _ (.head _) he
              · exact hoff _ (.tail _ hp) he
            · replace hdp : dpGo x (y.drop (i + 1)) _ _ _ = dpF x y := hdp
              rw [← hrow, ← (show res = dn.getLastD (2 * (i : Int)) from hres)] at hdp
              rw [← hdp]
              exact congrArg (fun k : Int => dpGo x (y.drop (i + 1)) k dn res) (by omega)
      · rintro h tk m nx ⟨vs, kr, row, res, tr, rfl, hvs, hrl, hdp, mr, mrow, ma, mb, mc⟩ F N
        rw [List.drop_length, dpGo] at hdp
        k_steps
        dsimp only
        exact BEnd.ret [(D, listOf vs.toArray kr)] F N (Above.nil.cons hlt) ⟨tr, by rw [show levL la lb = dpF x y from hxy, ← hdp]⟩
end Mine
end
section
open PySem PySem.W PyProof.Rows
set_option Elab.async false
namespace Mine
set_option maxRecDepth 100000
/-- greater, of two lists of one length -/
def gtL : List Int → List Int → Bool
  | a :: as, b :: bs => if a = b then gtL as bs else decide (b < a)
  | _, _ => false
open AutoSeq1 (wpAny_loadPart') in
open MeetsSeq MeetsSeq2 MeetsSeq3 SeqAt in
theorem gt_loop (l b : Addr) (vs us : List Value) (ns ms : List Int) (hi : All2 IntIn vs ns) (hj : All2 IntIn us ms) (n n2 : Nat) (hl0 : ns.length = ms.length) (k : Nat) :
    ∀ i : Nat, ns.length - i = k → Meets (Builtin.«list.__eq__.loop» ⟨[.ref l, .ref b, rawInt i, rawInt 4], []⟩)
      (fun _ R s => s.heap.get? l = some (listOf vs.toArray n) ∧ s.heap.get? b = some (listOf us.toArray n2) ∧ R (.ok (.ret (.bool (gtL (ns.drop i) (ms.drop i))))) s) := by
  have hvl := hi.length
  have hul := hj.length
  induction k with
  | zero =>
    intro i hk prog w A R s h
    obtain ⟨hp, g, d, tk, os⟩ := s; obtain ⟨hl, hb, h⟩ := h
    wp_walk using wpAny_loadPart' hl, wpAny_loadPart' hb
    have hi1 : vs.toArray[((i : Nat) : Int).toNat]? = none := by simp; omega
    have hi2 : us.toArray[((i : Nat) : Int).toNat]? = none := by simp; omega
    have hd : ns.drop i = [] := by simp; omega
    rw [hd, gtL.eq_2 _ _ (by intro a as b bs h; cases h)] at h
    rw [hi1, hi2]
    wp_walk using wpAny_loadPart' hl, wpAny_loadPart' hb
    show R (.ok (.ret (.bool (decide (vs.toArray.size > us.toArray.size))))) _
    rw [show decide (vs.toArray.size > us.toArray.size) = false by simp; omega]
    exact h
  | succ k ih =>
    intro i hk prog w A R s h
    obtain ⟨hp, g, d, tk, os⟩ := s; obtain ⟨hl, hb, h⟩ := h
    wp_walk using wpAny_loadPart' hl, wpAny_loadPart' hb
    have hlt : i < ns.length := by omega
    have hlt2 : i < ms.length := by omega
    obtain ⟨_, ht, t, rfl⟩ := hi.get' (List.getElem?_eq_getElem hlt)
    obtain ⟨_, hu, u, rfl⟩ := hj.get' (List.getElem?_eq_getElem hlt2)
    have hi1 : vs.toArray[((i : Nat) : Int).toNat]? = some (.int ns[i] t) := by simpa using ht
    have hi2 : us.toArray[((i : Nat) : Int).toNat]? = some (.int ms[i] u) := by simpa using hu
    have hd : ns.drop i = ns[i] :: ns.drop (i + 1) := List.drop_eq_getElem_cons hlt
    have hd2 : ms.drop i = ms[i] :: ms.drop (i + 1) := List.drop_eq_getElem_cons hlt2
    have hc : ((i : Int) + 1) = ((i + 1 : Nat) : Int) := by push_cast; rfl
    rw [hd, hd2, gtL] at h
    rw [hi1, hi2]
    refine wpAny_bind (EqAt.int_int _ _ _ _ prog w _ _ ?_)
    by_cases he : ns[i] = ms[i]
    · rw [if_pos he] at h
      rw [show (ns[i] == ms[i]) = true from beq_iff_eq.mpr he]
      wp_walk
      rw [hc]
      exact ⟨plainId_quiet plain_eq_loop _, codeAny_builtin entry_eq_loop (by
        rw [Around.under_plainId plain_eq_loop _]
        exact ih (i + 1) (by omega) prog w A R _ ⟨hl, hb, h⟩)⟩
    · rw [if_neg he] at h
      rw [show (ns[i] == ms[i]) = false from beq_eq_false_iff_ne.mpr he]
      wp_walk using wpAny_loadPart' hl, wpAny_loadPart' hb
      rw [hi1, hi2]
      show wpAny _ _ (compareOp .Gt (.int ns[i] t) (.int ms[i] u) >>= _) _ _ _
      refine wpAny_bind (PyProof.Rows.gt_int ?_)
      exact wpAny_pure h
open AutoSeq1 (wpAny_loadPart') in
open MeetsSeq MeetsSeq2 MeetsSeq3 SeqAt in
theorem list_gt (l b : Addr) (vs us : List Value) (ns ms : List Int) (hi : All2 IntIn vs ns) (hj : All2 IntIn us ms) (n n2 : Nat) (hl0 : ns.length = ms.length) :
    Meets (Builtin.«list.__gt__» ⟨[.ref l, .ref b], []⟩)
      (fun _ R s => s.heap.get? l = some (listOf vs.toArray n) ∧ s.heap.get? b = some (listOf us.toArray n2) ∧ R (.ok (.ret (.bool (gtL ns ms)))) s) := by
  intro prog w A R s h
  obtain ⟨hp, g, d, tk, os⟩ := s; obtain ⟨hl, hb, h⟩ := h
  have f3 := AutoSeq1.sub_list_list
  wp_walk using wpAny_loadPart' hl, wpAny_loadPart' hb
  exact ⟨plainId_quiet plain_eq_loop _, codeAny_builtin entry_eq_loop (by
    rw [Around.under_plainId plain_eq_loop _]
    exact gt_loop l b vs us ns ms hi hj n n2 hl0 _ 0 rfl prog w A R _ ⟨hl, hb, by simpa using h⟩)⟩
section
variable {prog : Program} {w : World} {A : Around} {E : Value → Shared → Prop} {s : Shared} {h₀ : Heap} {L : Addr}
theorem gt_lists {l b : Addr} {vs us : List Value} {ns ms : List Int} {n n2 : Nat} {nx : Ledger} {Q : Value → Shared → Prop} (N : News h₀ L s.heap nx) (hl : (l, listOf vs.toArray n) ∈ nx) (hb : (b, listOf us.toArray n2) ∈ nx)
    (hi : All2 IntIn vs ns) (hj : All2 IntIn us ms) (hl0 : ns.length = ms.length) (hu : A.units < cLine) (h : Q (.bool (gtL ns ms)) s) : wpAny (model prog w) A (compareOp .Gt (.ref l) (.ref b)) Q E s := by
  have e1 := (N _ hl).1
  have e2 := (N _ hb).1
  exact richCompare_meets_room (op := .Gt) ⟨_, e1, rfl⟩ ⟨_, e2, rfl⟩ F.slot_list_gt F.entry_list_gt (F.args_list_gt_2 _ _) (list_gt l b vs us ns ms hi hj n n2 hl0)
    ⟨e1, e2, show Value.bool (gtL ns ms) ≠ Value.notImplemented ∧ Q (.bool (gtL ns ms)) s from ⟨(fun x => nomatch x), h⟩⟩ hu
end
end Mine
end
section
open PySem PySem.W PyProof.Rows
set_option Elab.async false
namespace Mine
set_option maxRecDepth 100000
abbrev StrV (v : Value) (x : Str) : Prop := ∃ t, v = .str x t
section
variable {prog : Program} {w : World} {A : Around} {E : Value → Shared → Prop} {s : Shared} {h₀ : Heap} {L : Addr} {m : Str → Option Value} {news : Ledger}
theorem list_dict_N {d : Addr} {o : Obj} {kvs : List (Str × Value)} {Q : Value → Shared → Prop} (hh : A.handled = none) (F : Fr h₀ L s.heap m) (N : News h₀ L s.heap news) (hp : (d, o) ∈ news) (hd : o.IsDictOf (PySem.strKind prog w) kvs) (lo : (d == sysModules) = false) (hn : kvs.length ≤ 16777216)
    (h : ∀ (B : Addr) c h' tk vs, Fr h₀ L h' m → News h₀ L h' ((B, listOf (List.toArray vs) c) :: news) → (∀ q ∈ news, q.1 < B) → All2 StrV vs (kvs.map (·.1)) → Q (.ref B) { s with heap := h', toks := tk }) :
    wpAny (model prog w) A (call (.type "list") [.ref d]) Q E s := by
  obtain ⟨ep, hat⟩ := (kda_dict N hp hd).dictAt
  refine kdl_N (kdl_dict (knd := PySem.strKind prog w) (kvs := kvs) (ep := ep) lo) hh F N hat (kdl_size hn) fun B c h' tk vs F' N' l1 hl hv => ?_
  refine h B c h' tk vs F' N' l1 (all2_of_get (by simpa using hl) fun j v x hv' hx => ?_)
  obtain ⟨k, x', hx', hk⟩ := hv j v hv'
  rw [List.getElem?_map, hx'] at hx
  obtain rfl : k = x := Option.some.inj hx
  exact Value.isStrOf_shape hk
theorem list_str_N {x : Str} {t : Tok} {Q : Value → Shared → Prop} (hh : A.handled = none) (F : Fr h₀ L s.heap m) (N : News h₀ L s.heap news) (hn : x.length ≤ sizeLine)
    (h : ∀ (B : Addr) c h' tk vs, Fr h₀ L h' m → News h₀ L h' ((B, listOf (List.toArray vs) c) :: news) → (∀ q ∈ news, q.1 < B) → All2 StrV vs (x.cps.toList.map fun c => S [c]) → Q (.ref B) { s with heap := h', toks := tk }) :
    wpAny (model prog w) A (call (.type "list") [.str x t]) Q E s := by
  refine call_list_str hh x t (hn := hn) fun h' tk acc' c' hk hD hacc => ?_
  refine h _ c' h' tk acc'.toList (F.keeps hk) (news_pushed F N hk (by first | (rw [Array.toArray_toList]; exact hD) | simpa using hD) rfl) (fun q hq => Heap.lt_size (N q hq).1) (all2_of_get ?_ fun j v y hv hy => ?_)
  · rw [Array.length_toList, hacc.1]; simp
  · obtain ⟨c, u, hc, rfl⟩ := hacc.2 j v (by rw [← Array.getElem?_toList]; exact hv)
    rw [List.getElem?_map] at hy
    rw [show x.cps.toList[j]? = some c by simpa using hc] at hy
    obtain rfl := Option.some.inj hy
    exact ⟨u, rfl⟩
end
open PySem.SeqAt in
section
variable {prog : Program} {w : World} {A : Around} {E : Value → Shared → Prop} {s : Shared} {h₀ : Heap} {L : Addr} {nx : Ledger}
theorem all2_size {P : Value → Value → Prop} {vs us : List Value} (h : All2 P vs us) : vs.toArray.size = us.toArray.size := by simpa using h.length
theorem all2_at {P : Value → Value → Prop} {vs us : List Value} (h : All2 P vs us) (j : Nat) (h1 : j < vs.toArray.size) (h2 : j < us.toArray.size) : P vs.toArray[j] us.toArray[j] := by
  have a1 : vs[j]? = some vs[j] := List.getElem?_eq_getElem (by simpa using h1)
  obtain ⟨b, hb, hP⟩ := h.get a1
  have : us[j]? = some us[j] := List.getElem?_eq_getElem (by simpa using h2)
  rw [this] at hb
  obtain rfl := Option.some.inj hb
  simpa using hP
theorem rc_same {l b : Addr} {vs us : List Value} (hl : s.heap.IsList l vs.toArray) (hb : s.heap.IsList b us.toArray) (h : All2 (fun v u => EqAt A.in1 s v u true) vs us) (hu : A.units < cLine) : RcAt A s (.ref l) (.ref b) true := by
  have := RcAt.lists (A := A) (e := fun _ => true) hl hb (all2_size h) hu fun j h1 h2 => all2_at h j h1 h2
  rwa [show (List.range vs.toArray.size).all (fun _ => true) = true by simp] at this
theorem rcne_same {l b : Addr} {vs us : List Value} (hl : s.heap.IsList l vs.toArray) (hb : s.heap.IsList b us.toArray) (h : All2 (fun v u => EqAt A.in1 s v u true) vs us) (hu : A.units < cLine) : RcNeAt A s (.ref l) (.ref b) false := by
  have := RcNeAt.lists (A := A) (e := fun _ => true) hl hb (all2_size h) hu fun j h1 h2 => all2_at h j h1 h2
  rwa [show (!(List.range vs.toArray.size).all (fun _ => true)) = false by simp] at this
theorem all2_join {α β γ : Type} {F : α → γ → Prop} {G : β → γ → Prop} {l : List α} {k : List β} {m : List γ} (h : All2 F l m) : All2 G k m → All2 (fun a b => ∃ c, c ∈ m ∧ F a c ∧ G b c) l k := by
  induction h generalizing k with
  | nil => intro h; cases h; exact .nil
  | cons f _ ih =>
    intro h
    cases h with
    | cons g t => exact .cons ⟨_, .head _, f, g⟩ ((ih t).imp fun _ _ h => let ⟨c, hc, h⟩ := h; ⟨c, .tail _ hc, h⟩)
theorem same_ints {v u : Value} {i : Int} (h : IntIn v i) (k : IntIn u i) : EqAt A s v u true := by
  obtain ⟨t, rfl⟩ := h
  obtain ⟨t', rfl⟩ := k
  have := EqAt.int_int (A := A) (s := s) i t i t'
  rwa [show (i == i) = true from beq_self_eq_true i] at this
theorem same_strs {v u : Value} {x : Str} (h : StrV v x) (k : StrV u x) : EqAt A s v u true := by
  obtain ⟨t, rfl⟩ := h
  obtain ⟨t', rfl⟩ := k
  have := EqAt.str_str (A := A) (s := s) x t x t'
  rwa [show (x == x) = true from beq_self_eq_true x] at this
/-- two rows of one kind, apart -/
theorem same_rows {a b : Ledger} {v u : Value} {r : List Int} (N : News h₀ L s.heap nx) (ha : ∀ q ∈ a, q ∈ nx) (hb : ∀ q ∈ b, q ∈ nx) (hab : ∀ p ∈ a, ∀ q ∈ b, p.1 ≠ q.1) (hu : A.units < cLine) (h : RowV a v r) (k : RowV b u r) : EqAt A s v u true := by
  obtain ⟨l, vs, n, rfl, h1, h2⟩ := h
  obtain ⟨l', us, n', rfl, k1, k2⟩ := k
  exact EqAt.of_refs (hab _ h1 _ k1) (rc_same (isList_at N (ha _ h1)) (isList_at N (hb _ k1)) ((all2_join h2 k2).imp fun _ _ h => let ⟨_, _, h, k⟩ := h; same_ints h k) hu)
theorem ne_rows {a b : Ledger} {l l' : Addr} {vs us : List Value} {n n' : Nat} {rs : List (List Int)} {Q : Value → Shared → Prop} (N : News h₀ L s.heap nx) (ha : ∀ q ∈ a, q ∈ nx) (hb : ∀ q ∈ b, q ∈ nx) (hab : ∀ p ∈ a, ∀ q ∈ b, p.1 ≠ q.1) (hu : A.units + 1 < cLine)
    (hl : (l, listOf vs.toArray n) ∈ nx) (hl' : (l', listOf us.toArray n') ∈ nx) (h : All2 (RowV a) vs rs) (k : All2 (RowV b) us rs) (q : Q (.bool false) s) : wpAny (model prog w) A (compareOp .NotEq (.ref l) (.ref l')) Q E s :=
  rcne_same (isList_at N hl) (isList_at N hl') ((all2_join h k).imp fun _ _ h => let ⟨_, _, h, k⟩ := h; same_rows (A := A.in1) N ha hb hab (by rw [units_in1]; exact hu) h k) (by omega) prog w E Q q
theorem eq_rows {a b : Ledger} {l l' : Addr} {vs us : List Value} {n n' : Nat} {rs : List (List Int)} {Q : Value → Shared → Prop} (N : News h₀ L s.heap nx) (ha : ∀ q ∈ a, q ∈ nx) (hb : ∀ q ∈ b, q ∈ nx) (hab : ∀ p ∈ a, ∀ q ∈ b, p.1 ≠ q.1) (hu : A.units + 1 < cLine)
    (hl : (l, listOf vs.toArray n) ∈ nx) (hl' : (l', listOf us.toArray n') ∈ nx) (h : All2 (RowV a) vs rs) (k : All2 (RowV b) us rs) (q : Q (.bool true) s) : wpAny (model prog w) A (compareOp .Eq (.ref l) (.ref l')) Q E s :=
  rc_same (isList_at N hl) (isList_at N hl') ((all2_join h k).imp fun _ _ h => let ⟨_, _, h, k⟩ := h; same_rows (A := A.in1) N ha hb hab (by rw [units_in1]; exact hu) h k) (by omega) prog w E Q q
theorem ne_strs {l l' : Addr} {vs us : List Value} {n n' : Nat} {xs : List Str} {Q : Value → Shared → Prop} (N : News h₀ L s.heap nx) (hu : A.units < cLine) (hl : (l, listOf vs.toArray n) ∈ nx) (hl' : (l', listOf us.toArray n') ∈ nx) (h : All2 StrV vs xs) (k : All2 StrV us xs) (q : Q (.bool false) s) :
    wpAny (model prog w) A (compareOp .NotEq (.ref l) (.ref l')) Q E s :=
  rcne_same (isList_at N hl) (isList_at N hl') ((all2_join h k).imp fun _ _ h => let ⟨_, _, h, k⟩ := h; same_strs h k) hu prog w E Q q
theorem eq_strs {l l' : Addr} {vs us : List Value} {n n' : Nat} {xs : List Str} {Q : Value → Shared → Prop} (N : News h₀ L s.heap nx) (hu : A.units < cLine) (hl : (l, listOf vs.toArray n) ∈ nx) (hl' : (l', listOf us.toArray n') ∈ nx) (h : All2 StrV vs xs) (k : All2 StrV us xs) (q : Q (.bool true) s) :
    wpAny (model prog w) A (compareOp .Eq (.ref l) (.ref l')) Q E s :=
  rc_same (isList_at N hl) (isList_at N hl') ((all2_join h k).imp fun _ _ h => let ⟨_, _, h, k⟩ := h; same_strs h k) hu prog w E Q q
end
end Mine
end
section
open PySem PySem.W PyProof.Rows PyProof.Rows.LCg
set_option Elab.async false
namespace Mine
set_option maxRecDepth 100000
section
variable {prog : Program} {w : World} {A : Around} {E : Value → Shared → Prop} {s : Shared} {h₀ : Heap} {L : Addr} {m : Str → Option Value} {env : Env}
variable {elt target iter : PySem.Expr} {ifs : List PySem.Expr} {scope : Scope} {cl : List (Str × Addr)} {pos : Pos} {I : Addr} {fp : List Addr} {n : Nat} {P Md : Nat → Value → Heap → Prop} {St : Nat → Heap → Prop} {keep news : Ledger}
theorem tup_LD {env' : Env} {elts : List PySem.Expr} {kk : Nat} {tp : Pos} {T : Addr} {vs : List Value} {nx : Ledger} {Q : Unit → Shared → Prop} (hh : A.handled = none) (F : Fr h₀ L s.heap m) (N : News h₀ L s.heap nx) (hT : s.heap.IsTuple T vs.toArray)
    (hn : (assignEach elts env').length = vs.length) (hstar : (assignEach elts env').findIdx? (·.1) = none)
    (h : ∀ h', Fr h₀ L h' m → News h₀ L h' nx → wpAny (model prog w) A (assignInOrder ((assignEach elts env').map (·.2)) vs) Q E { s with heap := h' }) :
    wpAny (model prog w) A (assign (.Tuple elts kk tp) env' (.ref T)) Q E s := by
  refine wpAny_assign_Tuple hh hT (by simpa using hn) hstar fun h' he => ?_
  have hL : L ≠ s.heap.objs.size := Nat.ne_of_lt F.ns.lt
  have up : ∀ b o, s.heap.get? b = some o → h'.get? b = some o := fun b o e => he b o (Nat.ne_of_lt (Heap.lt_size e)) e
  have := h h' ⟨F.ns.at' fun o e => he _ o hL e, fun b o e => up b o (F.keep b o e), F.above⟩ fun p hp => ⟨up _ _ (N p hp).1, (N p hp).2⟩
  simpa using this
theorem LC_AV {G : Shared → Prop} {y : Str} {py : Pos} (K : IterOk prog w A h₀ L m target I fp n P Md St keep news s) (hcell : ∀ y ∈ scope.names, y.2 ≠ .cell)
    (J : Nat → List Value → Ledger → Prop) (hJk : ∀ i ys nx, J i ys nx → ∀ p ∈ keep, p ∈ nx) (hJl : ∀ i ys nx, J i ys nx → ys.length ≤ i) (h0 : J 0 [] news)
    (turn : TurnA prog w A h₀ L m env elt target ifs scope cl I n P news s J)
    (done : ∀ D C h tk ys nx oC, J n ys nx → (∀ p ∈ (D, lst ys) :: nx, p.1 ≠ C) → (∀ p ∈ nx, p.1 ≠ D) → (∀ p ∈ news, p.1 < D) → Fr h₀ L h m → News h₀ L h ((C, oC) :: (D, lst ys) :: nx) →
      wpAny (model prog w) A (storeName env y (.ref D)) (fun _ s'' => ∃ h'' tk'' m'' nx'', s'' = { s with heap := h'', toks := tk'' } ∧ Fr h₀ L h'' m'' ∧ News h₀ L h'' ((C, oC) :: nx'') ∧ (∀ p ∈ nx'', p.1 ≠ C) ∧ ∀ h3, Fr h₀ L h3 m'' → News h₀ L h3 nx'' → G { s with heap := h3, toks := tk'' }) E { s with heap := h, toks := tk }) :
    CRest prog w A E env elt target iter ifs scope cl pos (some (assign (.Name y py) env)) (fun _ s' => G s') (.ref I) s :=
  LC_AU (Q := fun _ => G) K hcell J hJk hJl h0 turn done
end
noncomputable abbrev recOf {v l X s r d e c} {C : Prop} (_ : WalkO v l X s r d e c → C) := d
noncomputable abbrev lawRec : DefRec := recOf hd
theorem law_len : lawRec.body.length = 21 := rfl
theorem law_name : lawRec.name = Str.ofString "law" := rfl
noncomputable abbrev lawEnv (L fa : Addr) (cd : Value) : Env := envOfC lawRec.name lawRec.scope L fa cd
noncomputable abbrev lawA (dp un : Nat) (gd : Option (List Code)) (outer : List Env) (L fa : Addr) (cd : Value) : Around := ktrTop dp un gd lawRec.name lawRec.scope L fa cd (cellsFrom (L + 1) lawRec.scope.names []) outer
abbrev cells7 (L : Addr) (o1 o2 o3 o4 o5 o6 o7 : Obj) : Ledger := [(L + 1 + 1 + 1 + 1 + 1 + 1 + 1, o7), (L + 1 + 1 + 1 + 1 + 1 + 1, o6), (L + 1 + 1 + 1 + 1 + 1, o5), (L + 1 + 1 + 1 + 1, o4), (L + 1 + 1 + 1, o3), (L + 1 + 1, o2), (L + 1, o1)]
section
variable {g : Heap} {L fa : Addr} {cd : Value} {s : Shared} {m : Str → Option Value} {A : Around} {E : Value → Shared → Prop} {M : Model} {o1 o2 o3 o4 o5 o6 o7 : Obj} {X : Ledger} {v : Value} {Q : Unit → Shared → Prop} {u : Option Value}
theorem cell_put {env : Env} {x : Str} {c : Addr} {o : Obj} {pre post : Ledger} (F : Fr g L s.heap m) (N : News g L s.heap (pre ++ (c, o) :: post)) (hu : o.data = .cell u) (hpre : ∀ p ∈ pre, p.1 ≠ c) (hpost : ∀ p ∈ post, p.1 ≠ c)
    (hc : env.cells.lookup x = some c) (hk : env.scope.kind = .function) (hl : env.kindOf x = some .cell)
    (h : ∀ h' o', Fr g L h' m → News g L h' (pre ++ (c, o') :: post) → o'.data = .cell (some v) → Q () { s with heap := h' }) : wpAny M A (storeName env x v) Q E s := by
  have q := N (c, o) (List.mem_append_right _ (.head _))
  refine wpAny_storeName_cell hk hl hc ⟨o, q.1, hu⟩ fun h' hv hs => ?_
  obtain ⟨o', e, hd⟩ := hv
  refine h h' o' (F.change hs q.2.1 q.2.2) (fun p hp => ?_) hd
  rcases List.mem_append.mp hp with hp | hp
  · exact ⟨hs.extBut _ _ (hpre p hp) (N p (List.mem_append_left _ hp)).1, (N p (List.mem_append_left _ hp)).2⟩
  rcases List.mem_cons.mp hp with rfl | hp
  · exact ⟨e, q.2⟩
  · exact ⟨hs.extBut _ _ (hpost p hp) (N p (List.mem_append_right _ (.tail _ hp))).1, (N p (List.mem_append_right _ (.tail _ hp))).2⟩
abbrev OffC (L : Addr) (X : Ledger) : Prop := ∀ q ∈ X, @LT.lt Nat _ q.1 L ∨ @LT.lt Nat _ (L + 7) q.1
theorem ap_nil {c : Addr} : ∀ p ∈ ([] : Ledger), p.1 ≠ c := fun _ h => nomatch h
theorem ap_cons {a c : Addr} {o : Obj} {l : Ledger} (h : @Ne Nat a c) (t : ∀ p ∈ l, p.1 ≠ c) : ∀ p ∈ (a, o) :: l, p.1 ≠ c := fun p hp => (List.mem_cons.mp hp).elim (fun e => e ▸ h) (t p)
theorem ne_up {a k : Nat} : a + (k + 1) ≠ a := by omega
theorem ne_dn {a k : Nat} : a ≠ a + (k + 1) := by omega
theorem ap_off {L j : Nat} {X : Ledger} (off : OffC L X) (h : j ≤ 7) : ∀ p ∈ X, @Ne Nat p.1 (L + j) := fun p hp => by
  have := off p hp
  show @Ne Nat _ _
  omega
theorem put_word (F : Fr g L s.heap m) (N : News g L s.heap (cells7 L o1 o2 o3 o4 o5 o6 o7 ++ X)) (d : o1.data = .cell u) (off : OffC L X)
    (h : ∀ h' o', Fr g L h' m → News g L h' (cells7 L o' o2 o3 o4 o5 o6 o7 ++ X) → o'.data = .cell (some v) → Q () { s with heap := h' }) : wpAny M A (storeName (lawEnv L fa cd) (Str.ofString "word") v) Q E s :=
  cell_put (c := L + 1) (o := o1) (pre := [(L + 1 + 1 + 1 + 1 + 1 + 1 + 1, o7), (L + 1 + 1 + 1 + 1 + 1 + 1, o6), (L + 1 + 1 + 1 + 1 + 1, o5), (L + 1 + 1 + 1 + 1, o4), (L + 1 + 1 + 1, o3), (L + 1 + 1, o2)]) (post := X) F N d (ap_cons (@ne_up (L + 1) 5) (ap_cons (@ne_up (L + 1) 4) (ap_cons (@ne_up (L + 1) 3) (ap_cons (@ne_up (L + 1) 2) (ap_cons (@ne_up (L + 1) 1) (ap_cons (@ne_up (L + 1) 0) ap_nil)))))) (ap_off (j := 1) off (by decide)) rfl rfl rfl h
theorem put_keys (F : Fr g L s.heap m) (N : News g L s.heap (cells7 L o1 o2 o3 o4 o5 o6 o7 ++ X)) (d : o2.data = .cell u) (off : OffC L X)
    (h : ∀ h' o', Fr g L h' m → News g L h' (cells7 L o1 o' o3 o4 o5 o6 o7 ++ X) → o'.data = .cell (some v) → Q () { s with heap := h' }) : wpAny M A (storeName (lawEnv L fa cd) (Str.ofString "keys") v) Q E s :=
  cell_put (c := L + 1 + 1) (o := o2) (pre := [(L + 1 + 1 + 1 + 1 + 1 + 1 + 1, o7), (L + 1 + 1 + 1 + 1 + 1 + 1, o6), (L + 1 + 1 + 1 + 1 + 1, o5), (L + 1 + 1 + 1 + 1, o4), (L + 1 + 1 + 1, o3)]) (post := (L + 1, o1) :: X) F N d (ap_cons (@ne_up (L + 1 + 1) 4) (ap_cons (@ne_up (L + 1 + 1) 3) (ap_cons (@ne_up (L + 1 + 1) 2) (ap_cons (@ne_up (L + 1 + 1) 1) (ap_cons (@ne_up (L + 1 + 1) 0) ap_nil))))) (ap_cons (@ne_dn (L + 1) 0) (ap_off (j := 2) off (by decide))) rfl rfl rfl h
theorem put_judge (F : Fr g L s.heap m) (N : News g L s.heap (cells7 L o1 o2 o3 o4 o5 o6 o7 ++ X)) (d : o3.data = .cell u) (off : OffC L X)
    (h : ∀ h' o', Fr g L h' m → News g L h' (cells7 L o1 o2 o' o4 o5 o6 o7 ++ X) → o'.data = .cell (some v) → Q () { s with heap := h' }) : wpAny M A (storeName (lawEnv L fa cd) (Str.ofString "judge") v) Q E s :=
  cell_put (c := L + 1 + 1 + 1) (o := o3) (pre := [(L + 1 + 1 + 1 + 1 + 1 + 1 + 1, o7), (L + 1 + 1 + 1 + 1 + 1 + 1, o6), (L + 1 + 1 + 1 + 1 + 1, o5), (L + 1 + 1 + 1 + 1, o4)]) (post := (L + 1 + 1, o2) :: (L + 1, o1) :: X) F N d (ap_cons (@ne_up (L + 1 + 1 + 1) 3) (ap_cons (@ne_up (L + 1 + 1 + 1) 2) (ap_cons (@ne_up (L + 1 + 1 + 1) 1) (ap_cons (@ne_up (L + 1 + 1 + 1) 0) ap_nil)))) (ap_cons (@ne_dn (L + 1 + 1) 0) (ap_cons (@ne_dn (L + 1) 1) (ap_off (j := 3) off (by decide)))) rfl rfl rfl h
theorem put_entries (F : Fr g L s.heap m) (N : News g L s.heap (cells7 L o1 o2 o3 o4 o5 o6 o7 ++ X)) (d : o4.data = .cell u) (off : OffC L X)
    (h : ∀ h' o', Fr g L h' m → News g L h' (cells7 L o1 o2 o3 o' o5 o6 o7 ++ X) → o'.data = .cell (some v) → Q () { s with heap := h' }) : wpAny M A (storeName (lawEnv L fa cd) (Str.ofString "entries") v) Q E s :=
  cell_put (c := L + 1 + 1 + 1 + 1) (o := o4) (pre := [(L + 1 + 1 + 1 + 1 + 1 + 1 + 1, o7), (L + 1 + 1 + 1 + 1 + 1 + 1, o6), (L + 1 + 1 + 1 + 1 + 1, o5)]) (post := (L + 1 + 1 + 1, o3) :: (L + 1 + 1, o2) :: (L + 1, o1) :: X) F N d (ap_cons (@ne_up (L + 1 + 1 + 1 + 1) 2) (ap_cons (@ne_up (L + 1 + 1 + 1 + 1) 1) (ap_cons (@ne_up (L + 1 + 1 + 1 + 1) 0) ap_nil))) (ap_cons (@ne_dn (L + 1 + 1 + 1) 0) (ap_cons (@ne_dn (L + 1 + 1) 1) (ap_cons (@ne_dn (L + 1) 2) (ap_off (j := 4) off (by decide))))) rfl rfl rfl h
theorem put_sums (F : Fr g L s.heap m) (N : News g L s.heap (cells7 L o1 o2 o3 o4 o5 o6 o7 ++ X)) (d : o5.data = .cell u) (off : OffC L X)
    (h : ∀ h' o', Fr g L h' m → News g L h' (cells7 L o1 o2 o3 o4 o' o6 o7 ++ X) → o'.data = .cell (some v) → Q () { s with heap := h' }) : wpAny M A (storeName (lawEnv L fa cd) (Str.ofString "sums") v) Q E s :=
  cell_put (c := L + 1 + 1 + 1 + 1 + 1) (o := o5) (pre := [(L + 1 + 1 + 1 + 1 + 1 + 1 + 1, o7), (L + 1 + 1 + 1 + 1 + 1 + 1, o6)]) (post := (L + 1 + 1 + 1 + 1, o4) :: (L + 1 + 1 + 1, o3) :: (L + 1 + 1, o2) :: (L + 1, o1) :: X) F N d (ap_cons (@ne_up (L + 1 + 1 + 1 + 1 + 1) 1) (ap_cons (@ne_up (L + 1 + 1 + 1 + 1 + 1) 0) ap_nil)) (ap_cons (@ne_dn (L + 1 + 1 + 1 + 1) 0) (ap_cons (@ne_dn (L + 1 + 1 + 1) 1) (ap_cons (@ne_dn (L + 1 + 1) 2) (ap_cons (@ne_dn (L + 1) 3) (ap_off (j := 5) off (by decide)))))) rfl rfl rfl h
theorem put_rises (F : Fr g L s.heap m) (N : News g L s.heap (cells7 L o1 o2 o3 o4 o5 o6 o7 ++ X)) (d : o6.data = .cell u) (off : OffC L X)
    (h : ∀ h' o', Fr g L h' m → News g L h' (cells7 L o1 o2 o3 o4 o5 o' o7 ++ X) → o'.data = .cell (some v) → Q () { s with heap := h' }) : wpAny M A (storeName (lawEnv L fa cd) (Str.ofString "rises") v) Q E s :=
  cell_put (c := L + 1 + 1 + 1 + 1 + 1 + 1) (o := o6) (pre := [(L + 1 + 1 + 1 + 1 + 1 + 1 + 1, o7)]) (post := (L + 1 + 1 + 1 + 1 + 1, o5) :: (L + 1 + 1 + 1 + 1, o4) :: (L + 1 + 1 + 1, o3) :: (L + 1 + 1, o2) :: (L + 1, o1) :: X) F N d (ap_cons (@ne_up (L + 1 + 1 + 1 + 1 + 1 + 1) 0) ap_nil) (ap_cons (@ne_dn (L + 1 + 1 + 1 + 1 + 1) 0) (ap_cons (@ne_dn (L + 1 + 1 + 1 + 1) 1) (ap_cons (@ne_dn (L + 1 + 1 + 1) 2) (ap_cons (@ne_dn (L + 1 + 1) 3) (ap_cons (@ne_dn (L + 1) 4) (ap_off (j := 6) off (by decide))))))) rfl rfl rfl h
theorem put_plain (F : Fr g L s.heap m) (N : News g L s.heap (cells7 L o1 o2 o3 o4 o5 o6 o7 ++ X)) (d : o7.data = .cell u) (off : OffC L X)
    (h : ∀ h' o', Fr g L h' m → News g L h' (cells7 L o1 o2 o3 o4 o5 o6 o' ++ X) → o'.data = .cell (some v) → Q () { s with heap := h' }) : wpAny M A (storeName (lawEnv L fa cd) (Str.ofString "plain") v) Q E s :=
  cell_put (c := L + 1 + 1 + 1 + 1 + 1 + 1 + 1) (o := o7) (pre := []) (post := (L + 1 + 1 + 1 + 1 + 1 + 1, o6) :: (L + 1 + 1 + 1 + 1 + 1, o5) :: (L + 1 + 1 + 1 + 1, o4) :: (L + 1 + 1 + 1, o3) :: (L + 1 + 1, o2) :: (L + 1, o1) :: X) F N d ap_nil (ap_cons (@ne_dn (L + 1 + 1 + 1 + 1 + 1 + 1) 0) (ap_cons (@ne_dn (L + 1 + 1 + 1 + 1 + 1) 1) (ap_cons (@ne_dn (L + 1 + 1 + 1 + 1) 2) (ap_cons (@ne_dn (L + 1 + 1 + 1) 3) (ap_cons (@ne_dn (L + 1 + 1) 4) (ap_cons (@ne_dn (L + 1) 5) (ap_off (j := 7) off (by decide)))))))) rfl rfl rfl h
end
def LawEnd (g : Heap) (L : Addr) (s : Shared) (fl : Flow) (s' : Shared) : Prop :=
  ∃ h' tk' m' nx ps, s' = { s with heap := h', toks := tk' } ∧ Fr g L h' m' ∧ News g L h' nx ∧ (88, tabObj ps) ∈ nx ∧ fl = .ret (.bool true)
abbrev LSt := World → Heap → Addr → (Str → Option Value) → Ledger → Prop
section
variable {n i : Nat} (h : 3 ≤ n ∧ n ≤ 7)
include h
theorem ten7 : n ≤ 10 := Nat.le_trans h.2 (by decide)
theorem le500 : n ≤ 500 := Nat.le_trans h.2 (by decide)
theorem size7 : n ≤ sizeLine := by rw [sizeLine_eq]; exact Nat.le_trans h.2 (by decide)
theorem size71 : n + 1 ≤ sizeLine := by rw [sizeLine_eq]; exact Nat.le_trans (Nat.succ_le_succ h.2) (by decide)
theorem fit7 (k : i < n) : (i : Int) < 2 ^ 63 := by omega
theorem fit71 (k : i < n) : (i : Int) + 1 < 2 ^ 63 := by omega
end
theorem nn1 {i : Nat} : (0 : Int) ≤ (i : Int) + 1 := by omega
theorem tn1 {i : Nat} : ((i : Int) + 1).toNat = i + 1 := by omega
/-- from statement k on the law ends well, if St holds ahead of it -/
def Seg (k : Nat) (St : LSt) : Prop :=
  ∀ (w : World) (p : Program) (loose : List Str) (mean : ExcName → Option Value) (mg mb : Str → Option Value) (dp un : Nat) (gd : Option (List Code)) (outer : List Env) (A₀ : Around) (base g : Heap) (L fa : Addr) (cd : Value) (s : Shared) (m : Str → Option Value) (nx : Ledger),
    Below A₀ base outer g → (hd.heap_39 w.params).In g → Top p loose mean mg mb g → CodeHd g 92 88 → @LT.lt Nat _ 88 L → dp + 60 < recursionLimit → un + 8 * 60 < cLine → Fr g L s.heap m → News g L s.heap nx → St w g L m nx →
    wpAny (model PP w) (lawA dp un gd outer L fa cd) (execs (lawRec.body.drop k) (lawEnv L fa cd)) (LawEnd g L s) (fun _ _ => False) s
def numsL (ns : List Int) : List Int := ns.take 4 ++ [36, 59, 41]
def turnL (ns : List Int) : Int := (ns.take 3).sum.fmod 3
def keysL (ns : List Int) : List (Int × Int) := [(turnL ns, 1 - (ns.length : Int).fmod 2 * 2), ((turnL ns + 1).fmod 3, 1), ((turnL ns + 2).fmod 3, -1)]
abbrev lettersN (n : Nat) : List Nat := (List.range n).map (97 + ·)
def OffR (L : Addr) (R : Ledger) : Prop := ∀ q ∈ R, @LT.lt Nat _ (L + 7) q.1
theorem OffR.offC {L : Addr} {R : Ledger} {ps : Array Value} (h : OffR L R) (hL : @LT.lt Nat _ 88 L) : OffC L ((88, tabObj ps) :: R) := fun q hq => by
  rcases List.mem_cons.mp hq with rfl | hq
  · exact .inl hL
  · exact .inr (h q hq)
theorem OffR.cons {L : Addr} {R : Ledger} {a : Addr} {o : Obj} (h : OffR L R) (ha : @LT.lt Nat _ (L + 7) a) : OffR L ((a, o) :: R) := fun q hq => by
  rcases List.mem_cons.mp hq with rfl | hq
  · exact ha
  · exact h q hq
theorem OffR.append {L : Addr} {A R : Ledger} (h : OffR L R) (ha : OffR L A) : OffR L (A ++ R) := fun q hq => (List.mem_append.mp hq).elim (ha q) (h q)
section
variable {g h : Heap} {L : Addr} {o1 o2 o3 o4 o5 o6 o7 : Obj} {add R : Ledger} {t : Array Value}
theorem news_in (N : News g L h (add ++ (cells7 L o1 o2 o3 o4 o5 o6 o7 ++ (88, tabObj t) :: R))) : News g L h (cells7 L o1 o2 o3 o4 o5 o6 o7 ++ (88, tabObj t) :: (add ++ R)) := News.sub N fun q hq => by
  rcases List.mem_append.mp hq with hq | hq
  · exact List.mem_append_right _ (List.mem_append_left _ hq)
  rcases List.mem_cons.mp hq with rfl | hq
  · exact List.mem_append_right _ (List.mem_append_right _ (.head _))
  rcases List.mem_append.mp hq with hq | hq
  · exact List.mem_append_left _ hq
  · exact List.mem_append_right _ (List.mem_append_right _ (.tail _ hq))
theorem OffR.ext (h : OffR L R) (U : Above add (cells7 L o1 o2 o3 o4 o5 o6 o7 ++ (88, tabObj t) :: R)) : OffR L (add ++ R) := h.append fun q hq => U q hq (L + 1 + 1 + 1 + 1 + 1 + 1 + 1, o7) (List.mem_append_left _ (.head _))
theorem in_R {p : Addr × Obj} (h : p ∈ R) : p ∈ cells7 L o1 o2 o3 o4 o5 o6 o7 ++ (88, tabObj t) :: R := List.mem_append_right _ (.tail _ h)
end
inductive StA (ns : List Int) (w : World) (g : Heap) (L : Addr) (m : Str → Option Value) (nx : Ledger) : Prop
  | mk (l : Addr) (vs : List Value) (o1 o2 o3 o4 o5 o6 o7 : Obj) (q1 : m (Str.ofString "script") = some (.ref l)) (q2 : g.IsList l vs.toArray) (q3 : IntsAre vs ns) (q4 : ns.length ≤ 63) (q5 : nx = cells7 L o1 o2 o3 o4 o5 o6 o7 ++ [(88, tabObj #[])]) (q6 : o1.data = .cell none) (q7 : o2.data = .cell none) (q8 : o3.data = .cell none) (q9 : o4.data = .cell none) (q10 : o5.data = .cell none) (q11 : o6.data = .cell none) (q12 : o7.data = .cell none) : StA ns w g L m nx
inductive StB (ns : List Int) (w : World) (g : Heap) (L : Addr) (m : Str → Option Value) (nx : Ledger) : Prop
  | mk (o1 o2 o3 o4 o5 o6 o7 : Obj) (R : Ledger) (tw tm : Tok) (lk : Addr) (jv nv : Value) (q1 : nx = cells7 L o1 o2 o3 o4 o5 o6 o7 ++ (88, tabObj #[]) :: R) (q2 : OffR L R) (q3 : o1.data = .cell (some (.str (S (lettersN (numsL ns).length)) tw))) (q4 : o2.data = .cell (some (.ref lk))) (q5 : o3.data = .cell (some jv)) (q6 : o4.data = .cell none) (q7 : o5.data = .cell none) (q8 : o6.data = .cell none) (q9 : o7.data = .cell none) (q10 : m (Str.ofString "many") = some (.int (numsL ns).length tm)) (q11 : m (Str.ofString "numbers") = some nv) (q12 : ListIn IntV R nv (numsL ns)) (q13 : KeysIn R lk (keysL ns)) (q14 : JudgeIn R jv (keysL ns)) : StB ns w g L m nx
theorem all2_ints {vs : List Value} {ns : List Int} (h : IntsAre vs ns) : All2 (IntV []) vs ns := by
  induction h with
  | nil => exact .nil
  | cons i t _ ih => exact .cons ⟨t, rfl⟩ ih
theorem word_slice {n : Nat} (h : n ≤ 7) : Txt.slice (Str.ofString "abcdefg") none (some (n : Int)) = S (lettersN n) := by
  have e : Str.ofString "abcdefg" = S [97, 98, 99, 100, 101, 102, 103] := rfl
  rw [e, to_S (by simpa using h)]
  have : ∀ n : Fin 8, [97, 98, 99, 100, 101, 102, 103].take n.val = lettersN n.val := by decide
  rw [this ⟨n, by omega⟩]
theorem numsL_len (ns : List Int) : 3 ≤ (numsL ns).length ∧ (numsL ns).length ≤ 7 := by
  unfold numsL
  rw [List.length_append, List.length_take]
  simp only [List.length_cons, List.length_nil]
  omega
theorem mv5 {α : Type} {a b c d e : α} {X : List α} : ∀ q ∈ a :: b :: c :: d :: e :: X, q ∈ e :: a :: b :: c :: d :: X := fun q hq => by
  simp only [List.mem_cons] at hq ⊢
  rcases hq with h | h | h | h | h | h <;> simp [h]
theorem mv4 {α : Type} {a b c d : α} {X : List α} : ∀ q ∈ a :: b :: c :: d :: X, q ∈ d :: a :: b :: c :: X := fun q hq => by
  simp only [List.mem_cons] at hq ⊢
  rcases hq with h | h | h | h | h <;> simp [h]
theorem mem_cellsIn {L : Addr} {o1 o2 o3 o4 o5 o6 o7 : Obj} {X : Ledger} : (L + 1 + 1 + 1 + 1 + 1 + 1 + 1, o7) ∈ cells7 L o1 o2 o3 o4 o5 o6 o7 ++ X := List.mem_append_left _ (.head _)
theorem lit_all2 {α : Type} {G : Ledger → Value → α → Prop} {a b : Ledger} {ys : List Value} {xs : List α} {y : Value} {x : α} (h : All2 (G a) ys xs) (hG : ∀ v x, G a v x → G b v x) (k : G b y x) : All2 (G b) (ys ++ [y]) (xs ++ [x]) := (h.imp hG).append (.cons k .nil)
def colOf (v : Int) : Int × Int × Int := (v.fmod 5 - 2, (v.fdiv 5).fmod 5 - 2, (v.fdiv 25).fmod 3 - 1)
abbrev colsL (ns : List Int) : List (Int × Int × Int) := (numsL ns).map colOf
inductive StC (ns : List Int) (w : World) (g : Heap) (L : Addr) (m : Str → Option Value) (nx : Ledger) : Prop
  | mk (o1 o2 o3 o4 o5 o6 o7 : Obj) (R : Ledger) (tw tm : Tok) (lk : Addr) (jv cv : Value) (q1 : nx = cells7 L o1 o2 o3 o4 o5 o6 o7 ++ (88, tabObj #[]) :: R) (q2 : OffR L R) (q3 : o1.data = .cell (some (.str (S (lettersN (numsL ns).length)) tw))) (q4 : o2.data = .cell (some (.ref lk))) (q5 : o3.data = .cell (some jv)) (q6 : o4.data = .cell none) (q7 : o5.data = .cell none) (q8 : o6.data = .cell none) (q9 : o7.data = .cell none) (q10 : m (Str.ofString "many") = some (.int (numsL ns).length tm)) (q11 : m (Str.ofString "columns") = some cv) (q12 : ListIn ColIn R cv (colsL ns)) (q13 : KeysIn R lk (keysL ns)) (q14 : JudgeIn R jv (keysL ns)) : StC ns w g L m nx
def entOf (c : Int × Int × Int) (l : Nat) : Tot := ⟨c.1, c.2.1, c.2.2, 1, [S [l]]⟩
def entsL (ns : List Int) : List Tot := List.zipWith entOf (colsL ns) (lettersN (numsL ns).length)
inductive StD (ns : List Int) (w : World) (g : Heap) (L : Addr) (m : Str → Option Value) (nx : Ledger) : Prop
  | mk (o1 o2 o3 o4 o5 o6 o7 : Obj) (R : Ledger) (tw tm : Tok) (lk : Addr) (jv cv ev : Value) (q1 : nx = cells7 L o1 o2 o3 o4 o5 o6 o7 ++ (88, tabObj #[]) :: R) (q2 : OffR L R) (q3 : o1.data = .cell (some (.str (S (lettersN (numsL ns).length)) tw))) (q4 : o2.data = .cell (some (.ref lk))) (q5 : o3.data = .cell (some jv)) (q6 : o4.data = .cell (some ev)) (q7 : o5.data = .cell none) (q8 : o6.data = .cell none) (q9 : o7.data = .cell none) (q10 : m (Str.ofString "many") = some (.int (numsL ns).length tm)) (q11 : m (Str.ofString "columns") = some cv) (q12 : ListIn ColIn R cv (colsL ns)) (q13 : KeysIn R lk (keysL ns)) (q14 : JudgeIn R jv (keysL ns)) (q15 : TotsIn w R ev (entsL ns)) : StD ns w g L m nx
theorem of_allLt {d : Nat} : ∀ {l : Ledger}, AllLt d l → ∀ p ∈ l, @LT.lt Nat _ p.1 d
  | [], _, _, h => nomatch h
  | _ :: _, h, q, hq => by
    rcases List.mem_cons.mp hq with rfl | hq
    · exact h.1
    · exact of_allLt h.2 q hq
theorem entsL_len (ns : List Int) : (entsL ns).length = (numsL ns).length := by unfold entsL; simp
theorem entsL_ls (ns : List Int) : (entsL ns).map (·.ls) = (lettersN (numsL ns).length).map fun l => [S [l]] := by
  have h : ∀ (cs : List (Int × Int × Int)) (ls : List Nat), cs.length = ls.length → (List.zipWith entOf cs ls).map (·.ls) = ls.map fun l => [S [l]] := by
    intro cs
    induction cs with
    | nil => intro ls h; cases ls with
      | nil => rfl
      | cons _ _ => simp at h
    | cons c cs ih => intro ls h; cases ls with
      | nil => simp at h
      | cons l ls => simp only [List.zipWith_cons_cons, List.map_cons]; rw [ih ls (by simpa using h)]; rfl
  exact h _ _ (by simp)
theorem flat_single {α β : Type} (f : α → β) (l : List α) : (l.map fun x => [f x]).flatten = l.map f := by
  induction l with
  | nil => rfl
  | cons a l ih => rw [List.map_cons, List.flatten_cons, ih]; rfl
theorem entsL_flat (ns : List Int) : (entsL ns).flatMap (·.ls) = (lettersN (numsL ns).length).map fun l => S [l] := by
  rw [List.flatMap_def, entsL_ls, flat_single]
theorem nodup_S {l : List Nat} (h : l.Nodup) : (l.map fun c => S [c]).Nodup := List.Pairwise.map _ (fun a b hab e => hab (one_S.mp e)) h
theorem lettersN_nodup (n : Nat) : (lettersN n).Nodup := List.Pairwise.map _ (fun a b hab e => hab (by omega)) List.nodup_range
theorem entsL_nodup (ns : List Int) : ((entsL ns).flatMap (·.ls)).Nodup := by rw [entsL_flat]; exact nodup_S (lettersN_nodup _)
def upN (es : List Tot) (ks : List (Int × Int)) (k : Nat) : Bool := decide (cmpK ks (tot (es.take (k + 1))) zeroT = 1)
def risesL (es : List Tot) (ks : List (Int × Int)) (n : Nat) : List Nat := (List.range n).filter (upN es ks)
def orderL (rs : List Nat) (n : Nat) : List Nat := rs.reverse ++ (List.range n).filter (fun k => !rs.contains k)
theorem keysL_ok (ns : List Int) : KeysOk (keysL ns) := by
  have h : ∀ a : Int, a.fmod 3 = 0 ∨ a.fmod 3 = 1 ∨ a.fmod 3 = 2 := fun a => by
    rw [Int.fmod_eq_emod_of_nonneg _ (by decide)]; omega
  intro p hp
  simp only [keysL, List.mem_cons, List.not_mem_nil, or_false] at hp
  rcases hp with rfl | rfl | rfl
  · exact h _
  · exact h _
  · exact h _
inductive StE (ns : List Int) (w : World) (g : Heap) (L : Addr) (m : Str → Option Value) (nx : Ledger) : Prop
  | mk (o1 o2 o3 o4 o5 o6 o7 : Obj) (R : Ledger) (tw tm : Tok) (lk : Addr) (jv cv ev sv rv : Value) (q1 : nx = cells7 L o1 o2 o3 o4 o5 o6 o7 ++ (88, tabObj #[]) :: R) (q2 : OffR L R) (q3 : o1.data = .cell (some (.str (S (lettersN (numsL ns).length)) tw))) (q4 : o2.data = .cell (some (.ref lk))) (q5 : o3.data = .cell (some jv)) (q6 : o4.data = .cell (some ev)) (q7 : o5.data = .cell (some sv)) (q8 : o6.data = .cell (some rv)) (q9 : o7.data = .cell none) (q10 : m (Str.ofString "many") = some (.int (numsL ns).length tm)) (q11 : m (Str.ofString "columns") = some cv) (q12 : ListIn ColIn R cv (colsL ns)) (q13 : KeysIn R lk (keysL ns)) (q14 : JudgeIn R jv (keysL ns)) (q15 : TotsIn w R ev (entsL ns)) (q16 : TotsIn w R sv (sumsL (entsL ns))) (q17 : ListIn NatV R rv (risesL (entsL ns) (keysL ns) (numsL ns).length)) : StE ns w g L m nx
theorem filt_yes {p : Nat → Bool} {i : Nat} (h : p i = true) : (List.range (i + 1)).filter p = (List.range i).filter p ++ [i] := by rw [List.range_succ, List.filter_append]; simp [h]
theorem filt_no {p : Nat → Bool} {i : Nat} (h : p i = false) : (List.range (i + 1)).filter p = (List.range i).filter p := by rw [List.range_succ, List.filter_append]; simp [h]
theorem risesL_yes {es : List Tot} {ks : List (Int × Int)} {i : Nat} (h : cmpK ks (tot (es.take (i + 1))) zeroT = 1) : risesL es ks (i + 1) = risesL es ks i ++ [i] := filt_yes (decide_eq_true h)
theorem risesL_no {es : List Tot} {ks : List (Int × Int)} {i : Nat} (h : ¬ cmpK ks (tot (es.take (i + 1))) zeroT = 1) : risesL es ks (i + 1) = risesL es ks i := filt_no (decide_eq_false h)
theorem off3 {I D C : Addr} {oI : Obj} {ys : List Value} {nx : Ledger} (hIo : ∀ p ∈ nx, p.1 ≠ I) (hDo : ∀ p ∈ (I, oI) :: nx, p.1 ≠ D) (hCo : ∀ p ∈ (D, lst ys) :: (I, oI) :: nx, p.1 ≠ C) : ∀ p ∈ nx, p.1 ∉ [I, D, C] := fun q hq => by
  simp only [List.mem_cons, List.not_mem_nil, or_false, not_or]
  exact ⟨hIo q hq, hDo q (.tail _ hq), hCo q (.tail _ (.tail _ hq))⟩
abbrev risesN (ns : List Int) : List Nat := risesL (entsL ns) (keysL ns) (numsL ns).length
abbrev orderN (ns : List Int) : List Nat := orderL (risesN ns) (numsL ns).length
inductive StF (ns : List Int) (w : World) (g : Heap) (L : Addr) (m : Str → Option Value) (nx : Ledger) : Prop
  | mk (o1 o2 o3 o4 o5 o6 o7 : Obj) (R : Ledger) (tw tm : Tok) (lk : Addr) (jv cv ev sv rv ov : Value) (q1 : nx = cells7 L o1 o2 o3 o4 o5 o6 o7 ++ (88, tabObj #[]) :: R) (q2 : OffR L R) (q3 : o1.data = .cell (some (.str (S (lettersN (numsL ns).length)) tw))) (q4 : o2.data = .cell (some (.ref lk))) (q5 : o3.data = .cell (some jv)) (q6 : o4.data = .cell (some ev)) (q7 : o5.data = .cell (some sv)) (q8 : o6.data = .cell (some rv)) (q9 : o7.data = .cell none) (q10 : m (Str.ofString "many") = some (.int (numsL ns).length tm)) (q11 : m (Str.ofString "columns") = some cv) (q12 : m (Str.ofString "order") = some ov) (q13 : ListIn ColIn R cv (colsL ns)) (q14 : KeysIn R lk (keysL ns)) (q15 : JudgeIn R jv (keysL ns)) (q16 : TotsIn w R ev (entsL ns)) (q17 : TotsIn w R sv (sumsL (entsL ns))) (q18 : ListIn NatV R rv (risesN ns)) (q19 : ListIn NatV R ov (orderN ns)) : StF ns w g L m nx
theorem natv_any {ys : List Value} {xs : List Nat} (h : All2 (NatV []) ys xs) (k : Nat) : ys.any (fun v => match v with | .int i _ => i == (k : Int) | _ => false) = xs.contains k := by
  induction h with
  | nil => rfl
  | @cons a b l m h _ ih =>
    obtain ⟨t, rfl⟩ := h
    rw [List.any_cons, List.contains_cons, ih]
    congr 1
    show ((b : Int) == (k : Int)) = (k == b)
    by_cases e : b = k
    · subst e; simp
    · have e1 : ((b : Int) == (k : Int)) = false := by simp; omega
      have e2 : (k == b) = false := by simp; omega
      rw [e1, e2]
section
variable {prog : Program} {w : World} {A : Around} {E : Value → Shared → Prop} {s : Shared} {h₀ : Heap} {L : Addr}
theorem notin_nats {l : Addr} {ys : List Value} {n : Nat} {xs : List Nat} {k : Nat} {t : Tok} {nx : Ledger} {Q : Value → Shared → Prop} (N : News h₀ L s.heap nx) (hm : (l, listOf ys.toArray n) ∈ nx) (hy : All2 (NatV []) ys xs) (h : Q (.bool (!xs.contains k)) s) :
    wpAny (model prog w) A (compareOp .NotIn (.int k t) (.ref l)) Q E s := by
  refine PySem.SeqAt.notIn_listAt (fun v => match v with | .int i _ => i == (k : Int) | _ => false) (isList_at N hm) (fun y hyy => ?_) ?_
  · obtain ⟨i, hi⟩ := List.getElem?_of_mem (by simpa using hyy : y ∈ ys)
    obtain ⟨b, _, t', rfl⟩ := hy.get hi
    exact PySem.SeqAt.EqAt.int_int _ _ _ _
  · rw [show (ys.toArray.any (fun v => match v with | .int i _ => i == (k : Int) | _ => false)) = ys.any (fun v => match v with | .int i _ => i == (k : Int) | _ => false) by simp, natv_any hy]
    exact h
end
def orderE (ns : List Int) : List Tot := (orderN ns).map fun k => (entsL ns).getD k zeroT
theorem order_perm (p : Nat → Bool) (n : Nat) : (orderL ((List.range n).filter p) n).Perm (List.range n) := by
  have e : (List.range n).filter (fun k => !((List.range n).filter p).contains k) = (List.range n).filter (fun k => !p k) := by
    apply List.filter_congr
    intro k hk
    congr 1
    rw [Bool.eq_iff_iff, List.contains_iff_mem, List.mem_filter]
    exact ⟨fun h => h.2, fun h => ⟨hk, h⟩⟩
  rw [orderL, e]
  exact ((List.reverse_perm _).append_right _).trans (List.filter_append_perm p _)
theorem orderN_perm (ns : List Int) : (orderN ns).Perm (List.range (numsL ns).length) := order_perm _ _
theorem orderN_len (ns : List Int) : (orderN ns).length = (numsL ns).length := by rw [(orderN_perm ns).length_eq, List.length_range]
theorem orderN_lt (ns : List Int) : ∀ k ∈ orderN ns, k < (numsL ns).length := fun k hk => List.mem_range.mp ((orderN_perm ns).mem_iff.mp hk)
theorem orderN_nodup (ns : List Int) : (orderN ns).Nodup := (orderN_perm ns).nodup_iff.mpr List.nodup_range
theorem ent_ls (ns : List Int) {k : Nat} (hk : k < (numsL ns).length) : ((entsL ns).getD k zeroT).ls = [S [97 + k]] := by
  have h := congrArg (fun l => l[k]?) (entsL_ls ns)
  simp only [List.getElem?_map] at h
  have h1 : (entsL ns)[k]? = some ((entsL ns).getD k zeroT) := by simp [entsL_len, hk]
  rw [h1] at h
  rw [List.getElem?_range hk] at h
  exact Option.some.inj h
theorem orderE_len (ns : List Int) : (orderE ns).length = (numsL ns).length := by rw [orderE, List.length_map, orderN_len]
theorem orderE_flat (ns : List Int) : (orderE ns).flatMap (·.ls) = (orderN ns).map fun k => S [97 + k] := by
  have e : (orderE ns).map (·.ls) = (orderN ns).map fun k => [S [97 + k]] := by
    rw [orderE, List.map_map]
    exact List.map_congr_left fun k hk => ent_ls ns (orderN_lt ns k hk)
  rw [List.flatMap_def, e, flat_single]
theorem orderE_nodup (ns : List Int) : ((orderE ns).flatMap (·.ls)).Nodup := by
  rw [orderE_flat]
  exact List.Pairwise.map _ (fun a b hab e => hab (by have := one_S.mp e; omega)) (orderN_nodup ns)
inductive PureTop (ns : List Int) : Prop
  | mk (W : Tot → Int) (b : Tot) (q1 : (∀ a ∈ sumsL (orderE ns), ∀ c ∈ sumsL (orderE ns), (cmpK (keysL ns) a c < 0 ↔ W a < W c))) (q2 : (sumsL (orderE ns)).foldl (step W) none = some b) (q3 : b.n = (risesN ns).length) : PureTop ns
/-- from statement 13 on: what stands -/
inductive Com (ns : List Int) (w : World) (L : Addr) (m : Str → Option Value) (nx R : Ledger) (o7 : Obj) (cv ov uv sv ev rv jv : Value) (lk : Addr) (tt : Tok) : Prop
  | mk (o1 o2 o3 o4 o5 o6 : Obj) (ps : Array Value) (tw tm : Tok) (q1 : nx = cells7 L o1 o2 o3 o4 o5 o6 o7 ++ (88, tabObj ps) :: R) (q2 : OffR L R) (q3 : o1.data = .cell (some (.str (S (lettersN (numsL ns).length)) tw))) (q4 : o2.data = .cell (some (.ref lk))) (q5 : o3.data = .cell (some jv)) (q6 : o4.data = .cell (some ev)) (q7 : o5.data = .cell (some sv)) (q8 : o6.data = .cell (some rv)) (q9 : m (Str.ofString "many") = some (.int (numsL ns).length tm)) (q10 : m (Str.ofString "columns") = some cv) (q11 : m (Str.ofString "order") = some ov) (q12 : m (Str.ofString "turned") = some uv) (q13 : m (Str.ofString "top") = some (.int (risesN ns).length tt)) (q14 : ListIn ColIn R cv (colsL ns)) (q15 : KeysIn R lk (keysL ns)) (q16 : JudgeIn R jv (keysL ns)) (q17 : TotsIn w R ev (entsL ns)) (q18 : TotsIn w R sv (sumsL (entsL ns))) (q19 : ListIn NatV R rv (risesN ns)) (q20 : ListIn NatV R ov (orderN ns)) (q21 : TotsIn w R uv (sumsL (orderE ns))) : Com ns w L m nx R o7 cv ov uv sv ev rv jv lk tt
inductive StG (ns : List Int) (w : World) (g : Heap) (L : Addr) (m : Str → Option Value) (nx : Ledger) : Prop
  | mk (R : Ledger) (o7 : Obj) (cv : Value) (ov : Value) (uv : Value) (sv : Value) (ev : Value) (rv : Value) (jv : Value) (lk : Addr) (tt : Tok) (q1 : Com ns w L m nx R o7 cv ov uv sv ev rv jv lk tt) (q2 : o7.data = .cell none) : StG ns w g L m nx
theorem natl_mono {a b : Ledger} {v : Value} {xs : List Nat} (h : ListIn NatV a v xs) (k : ∀ p ∈ a, p ∈ b) : ListIn NatV b v xs := by
  obtain ⟨l, vs, n, e, h1, h2⟩ := h
  exact ⟨l, vs, n, e, k _ h1, h2⟩
theorem coll_mono {a b : Ledger} {v : Value} {xs : List (Int × Int × Int)} (h : ListIn ColIn a v xs) (k : ∀ p ∈ a, p ∈ b) : ListIn ColIn b v xs := by
  obtain ⟨l, vs, n, e, h1, h2⟩ := h
  exact ⟨l, vs, n, e, k _ h1, h2.imp fun _ _ h => h.mono k⟩
theorem not88 {L : Addr} {R : Ledger} {o1 o2 o3 o4 o5 o6 o7 : Obj} (hL : @LT.lt Nat _ 88 L) (hR : OffR L R) : ∀ q ∈ cells7 L o1 o2 o3 o4 o5 o6 o7 ++ R, q.1 ≠ 88 := fun q hq => by
  rcases List.mem_append.mp hq with hq | hq
  · simp only [List.mem_cons, List.not_mem_nil, or_false] at hq
    rcases hq with rfl | rfl | rfl | rfl | rfl | rfl | rfl
    all_goals (dsimp only; show @Ne Nat _ _; omega)
  · have := hR q hq
    show @Ne Nat _ _
    omega
def PureBack (ns : List Int) : Prop := backN (upOf (entsL ns) (keysL ns)) (orderN ns).length (orderN ns) [] = List.range (numsL ns).length
theorem ents_order (ns : List Int) : (orderN ns).map (fun k => (entsL ns).getD k zeroT) = orderE ns := rfl
abbrev textN (ns : List Int) : List Nat := (orderN ns).map (97 + ·)
inductive StH (ns : List Int) (w : World) (g : Heap) (L : Addr) (m : Str → Option Value) (nx : Ledger) : Prop
  | mk (R : Ledger) (o7 : Obj) (cv : Value) (ov : Value) (uv : Value) (sv : Value) (ev : Value) (rv : Value) (jv : Value) (lk : Addr) (tt : Tok) (tx : Tok) (q1 : Com ns w L m nx R o7 cv ov uv sv ev rv jv lk tt) (q2 : o7.data = .cell none) (q3 : m (Str.ofString "text") = some (.str (S (textN ns)) tx)) : StH ns w g L m nx
theorem strs_of {ys : List Value} {ks : List Nat} (h : All2 (fun v k => ∃ t, v = Value.str (S [97 + k]) t) ys ks) : StrsAre ys (ks.map fun k => S [97 + k]) := by
  induction h with
  | nil => exact .nil
  | cons h _ ih => obtain ⟨t, rfl⟩ := h; exact .cons _ t ih
theorem app_S (a b : List Nat) : (S a ++ S b : Str) = S (a ++ b) := by
  show (⟨a.toArray ++ b.toArray⟩ : Str) = _
  simp
theorem join_S : ∀ ks : List Nat, Str.join (Str.ofString "") (ks.map fun k => S [97 + k]) = S (ks.map (97 + ·))
  | [] => rfl
  | [k] => rfl
  | k :: k' :: r => by
    have ih := join_S (k' :: r)
    rw [List.map_cons, List.map_cons] at ih
    rw [List.map_cons, List.map_cons, Str.join, ih, show Str.ofString "" = S [] from rfl, app_S, app_S]
    · rfl
    · intro h; cases h
theorem sum_len_S (ks : List Nat) : ((ks.map fun k => S [97 + k]).map (·.length)).sum = ks.length := by
  induction ks with
  | nil => rfl
  | cons k r ih => rw [List.map_cons, List.map_cons, List.sum_cons, ih, len_S]; simp; omega
theorem rev_S (l : List Nat) (u : Tok) : Txt.sliceBy (S l) none none (-1, u) = S l.reverse := by
  have h := PyProof.Rows.step_rev_list (S l) u
  have e : (Txt.sliceBy (S l) none none (-1, u)).cps.toList = l.reverse := by
    rw [h]
    apply List.ext_getElem
    · simp [Str.length]
    · intro i h1 h2
      simp only [List.length_reverse] at h2
      simp [Str.length, List.getElem_reverse, Array.getD]
      rw [dif_pos (by omega)]
  have e2 : ∀ x : Str, (⟨x.cps.toList.toArray⟩ : Str) = x := fun x => by cases x; simp
  rw [← e2 (Txt.sliceBy (S l) none none (-1, u)), e]
theorem still_letters {l : List Nat} (h : ∀ c ∈ l, ∃ k, k < 7 ∧ c = 97 + k) : KXs.Still (S l) := by
  intro c hc
  obtain ⟨k, hk, rfl⟩ := h c (by simpa using hc)
  omega
def PureLev (ns : List Int) : Prop := levL (lettersN (numsL ns).length) ((textN ns).take (risesN ns).length).reverse = 2 * ((numsL ns).length - (risesN ns).length : Int) ∧ levL (lettersN (numsL ns).length) ((textN ns).drop (risesN ns).length) = 2 * ((risesN ns).length : Int)
theorem All2.of_map {α β γ : Type} {F : α → γ → Prop} {f : β → γ} : ∀ {l : List α} {m : List β}, All2 F l (m.map f) → All2 (fun a b => F a (f b)) l m
  | [], [], _ => .nil
  | _ :: _, [], h => by cases h
  | [], _ :: _, h => by cases h
  | _ :: _, _ :: _, .cons h r => .cons h (All2.of_map r)
theorem range_nats {vs : List Value} {n : Nat} (h : All2 IntIn vs ((List.range n).map fun (i : Nat) => 0 + (i : Int) * 1)) : All2 (NatV []) vs (List.range n) := h.of_map.imp fun v k h => by
  obtain ⟨t, rfl⟩ := h
  exact ⟨t, congrArg (fun i => Value.int i t) (by omega)⟩
theorem keysL_sign (ns : List Int) : ∀ p ∈ keysL ns, p.2 = 1 ∨ p.2 = -1 := by
  have h : ∀ a : Int, a.fmod 2 = 0 ∨ a.fmod 2 = 1 := fun a => by
    rw [Int.fmod_eq_emod_of_nonneg _ (by decide)]; omega
  intro p hp
  simp only [keysL, List.mem_cons, List.not_mem_nil, or_false] at hp
  rcases hp with rfl | rfl | rfl
  · have := h (ns.length : Int)
    dsimp only
    omega
  · exact .inl rfl
  · exact .inr rfl
theorem keysL_len (ns : List Int) : (keysL ns).length = 3 := rfl
theorem colsL_len (ns : List Int) : (colsL ns).length = (numsL ns).length := by simp
def PureGt (ns : List Int) : Prop := ∀ k, k < (numsL ns).length → gtL (pRow (colsL ns) (keysL ns) ((List.range (numsL ns).length).take (k + 1))) [0, 0, 0] = upN (entsL ns) (keysL ns) k
inductive StI (ns : List Int) (way : List Nat) (w : World) (g : Heap) (L : Addr) (m : Str → Option Value) (nx : Ledger) : Prop
  | mk (R : Ledger) (o7 : Obj) (cv : Value) (ov : Value) (uv : Value) (sv : Value) (ev : Value) (rv : Value) (jv : Value) (lk : Addr) (tt : Tok) (pv : Value) (tx : Tok) (q1 : Com ns w L m nx R o7 cv ov uv sv ev rv jv lk tt) (q2 : o7.data = .cell (some pv)) (q3 : ListIn RowV R pv (plainL (colsL ns) (keysL ns) way)) (q4 : m (Str.ofString "text") = some (.str (S (textN ns)) tx)) : StI ns way w g L m nx
theorem row_mono {a b : Ledger} {v : Value} {xs : List Int} (h : RowV a v xs) (k : ∀ p ∈ a, p ∈ b) : RowV b v xs := by
  obtain ⟨l, vs, n, e, h1, h2⟩ := h
  exact ⟨l, vs, n, e, k _ h1, h2⟩
theorem rows_mono {a b : Ledger} {v : Value} {xs : List (List Int)} (h : ListIn RowV a v xs) (k : ∀ p ∈ a, p ∈ b) : ListIn RowV b v xs := by
  obtain ⟨l, vs, n, e, h1, h2⟩ := h
  exact ⟨l, vs, n, e, k _ h1, h2.imp fun _ _ h => row_mono h k⟩
def rowT (ks : List (Int × Int)) (t : Tot) : List Int := ks.map fun p => t.at p.1 * p.2
def PureRows (ns : List Int) : Prop := (sumsL (entsL ns)).map (rowT (keysL ns)) = plainL (colsL ns) (keysL ns) (List.range (numsL ns).length) ∧ (sumsL (orderE ns)).map (rowT (keysL ns)) = plainL (colsL ns) (keysL ns) (orderN ns)
theorem tot_at {t : Tot} {t0 t1 t2 t3 : Tok} {dv : Value} {c : Int} (hc : c = 0 ∨ c = 1 ∨ c = 2) : ∃ tx, ([Value.int t.x t0, .int t.y t1, .int t.z t2, .int t.n t3, dv])[c.toNat]? = some (.int (t.at c) tx) := by
  rcases hc with rfl | rfl | rfl
  · exact ⟨t0, rfl⟩
  · exact ⟨t1, rfl⟩
  · exact ⟨t2, rfl⟩
theorem sumsL_last (es : List Tot) : (sumsL es)[es.length]? = some (tot es) := by
  rw [sumsL, List.getElem?_map, List.getElem?_range (Nat.lt_succ_self _), Option.map_some, List.take_length]
theorem sumsL_len (es : List Tot) : (sumsL es).length = es.length + 1 := by simp [sumsL]
theorem ite_go {P Q : Prop} (p : P) : if true = true then P else Q := by rw [if_pos rfl]; exact p
section
variable {prog : Program} {w : World} {A : Around} {E : Value → Shared → Prop} {s : Shared} {h₀ : Heap} {L : Addr} {nx : Ledger}
theorem len_atN {l : Addr} {vs : List Value} {n k : Nat} {Q : Value → Shared → Prop} (N : News h₀ L s.heap nx) (hm : (l, listOf vs.toArray n) ∈ nx) (hz : vs.length ≤ 100000) (e : vs.length = k)
    (h : Q (.int k (s.toks + 1)) { s with toks := s.toks + 1 + 1 }) : wpAny (model prog w) A (call (.builtin "len") [.ref l]) Q E s := by
  subst e
  exact len_at N hm hz h
theorem ne_ints_same {a b : Addr} {vs us : List Value} {ns ms : List Int} {Q : Value → Shared → Prop} (hl : s.heap.IsList a vs.toArray) (hi : IntsAre vs ns) (hl' : s.heap.IsList b us.toArray) (hi' : IntsAre us ms) (e : ns = ms) (hu : A.units + 64 < cLine)
    (h : Q (.bool false) s) : wpAny (model prog w) A (compareOp .NotEq (.ref a) (.ref b)) Q E s :=
  ne_intsK hl hi hl' hi' hu (by rw [decide_eq_true e]; exact h)
theorem gt_listsB {l b : Addr} {vs us : List Value} {ns ms : List Int} {n n2 : Nat} {bb : Bool} {Q : Value → Shared → Prop} (N : News h₀ L s.heap nx) (hl : (l, listOf vs.toArray n) ∈ nx) (hb : (b, listOf us.toArray n2) ∈ nx)
    (hi : All2 IntIn vs ns) (hj : All2 IntIn us ms) (hl0 : ns.length = ms.length) (hu : A.units < cLine) (e : gtL ns ms = bb) (h : Q (.bool bb) s) : wpAny (model prog w) A (compareOp .Gt (.ref l) (.ref b)) Q E s := by
  subst e
  exact gt_lists N hl hb hi hj hl0 hu h
theorem join_listE {x z : Str} {t : Tok} {D : Addr} {items : Array Value} {ys : List Str} {Q : Value → Shared → Prop} (hl : s.heap.IsList D items) (hi : StrsAre items.toList ys) (hok : (ys.map (·.length)).sum + ys.length * x.length ≤ 16777216) (e : Txt.join x ys = z)
    (h : ∀ t' k, Q (.str z t') { s with toks := k }) : wpAny (model prog w) A (call (.builtin "str.join") [.str x t, .ref D]) Q E s := by
  subst e
  exact join_list hl hi hok h
end
end Mine
end
section
open PySem PySem.W PyProof.Rows
set_option Elab.async false
namespace Mine
set_option maxRecDepth 100000
/-- the parts of a zip's own state, apart from one another and from what its two sources read -/
structure ZA (z TI TO i1 i2 : Addr) (fp1 fp2 : List Addr) : Prop where
  TIz : TI ≠ z
  TOz : TO ≠ z
  i1z : i1 ≠ z
  i2z : i2 ≠ z
  TITO : TI ≠ TO
  TIi1 : TI ≠ i1
  TIi2 : TI ≠ i2
  TOi1 : TO ≠ i1
  TOi2 : TO ≠ i2
  i12 : i1 ≠ i2
  m1 : i1 ∈ fp1
  m2 : i2 ∈ fp2
  z1 : z ∉ fp1
  z2 : z ∉ fp2
  o1 : TO ∉ fp1
  o2 : TO ∉ fp2
  q1 : i2 ∉ fp1
  q2 : i1 ∉ fp2
section
variable {prog : Program} {w : World} {A : Around} {E : Value → Shared → Prop} {s : Shared}
variable {z TI TO i1 i2 : Addr} {fp1 fp2 : List Addr} {n1 n2 : Nat} {P1 P2 : Nat → Value → Prop} {St1 St2 : Nat → Heap → Prop}
theorem draws_but {it b : Addr} {fp : List Addr} {n : Nat} {P : Nat → Value → Prop} {St : Nat → Heap → Prop} (D : Draws prog w A it fp n P St) {i : Nat} {h h' : Heap} (st : St i h) (hs : Heap.ExtBut b h h') (hb : b ∉ fp) : St i h' :=
  D.frame i h h' st fun c hc o e => hs c o (fun x => hb (x ▸ hc)) e
theorem zipD_item {i : Nat} {a b : Value} {Q : Value → Shared → Prop} (D1 : Draws prog w A i1 fp1 n1 P1 St1) (D2 : Draws prog w A i2 fp2 n2 P2 St2) (Z : ZA z TI TO i1 i2 fp1 fp2)
    (hz : IsZip s.heap z TI TO .none) (hTI : IsPair s.heap TI (.ref i1) (.ref i2)) (hTO : IsPair s.heap TO a b) (h1 : St1 i s.heap) (h2 : St2 i s.heap) (l1 : i < n1) (l2 : i < n2)
    (hQ : ∀ x y h' tk, P1 i x → P2 i y → IsZip h' z TI TO (rawInt s.heap.objs.size) → IsPair h' TO x y → St1 (i + 1) h' → St2 (i + 1) h' → IsPair h' s.heap.objs.size x y →
      (∀ c o, c ≠ z → c ≠ TO → c ≠ i1 → c ≠ i2 → s.heap.get? c = some o → h'.get? c = some o) → Q (.ref s.heap.objs.size) { s with heap := h', toks := tk }) :
    wpAny (model prog w) A (Builtin.«zip.__next__» ⟨[.ref z], []⟩) (fun fin s' => ∃ v, fin = .done (.ret v) ∧ Q v s') E s := by
  obtain ⟨hp, g, d, tk0, os⟩ := s
  show wpAny _ _ (field (.ref z) 2 >>= _) _ _ _
  refine wpAny_bind (wpAny_field hz rfl (x := .bool false) rfl ?_)
  show wpAny _ _ (field (.ref z) 3 >>= _) _ _ _
  refine wpAny_bind (wpAny_field hz rfl (x := .ref TI) rfl ?_)
  refine wpAny_bind (wpAny_seqItems hTI rfl ?_)
  show wpAny _ _ (Builtin.SmallTypes.ownedTupleIsFree (.ref z) >>= _) _ _ _
  refine wpAny_bind ?_
  unfold Builtin.SmallTypes.ownedTupleIsFree
  refine wpAny_bind (wpAny_field hz rfl (x := .none) rfl (wpAny_pure ?_))
  simp only [if_true]
  refine wpAny_bind (wpAny_rule ?_)
  refine wpAny_bind (wpAny_field hz rfl (x := .ref TO) rfl ?_)
  refine wpAny_bind (wpAny_setField_rec hz (by simp) fun ha za sa => ?_)
  replace za : IsZip ha z TI TO .ellipsis := za
  refine wpAny_bind ?_
  simp only [List.zipIdx_cons, List.zipIdx_nil, List.forIn_cons, List.forIn_nil]
  refine wpAny_bind (wpAny_bind (wpAny_onRaise ?_))
  show wpAny _ _ (Builtin.SmallTypes.nextOf (.ref i1) >>= _) _ _ _
  refine wpAny_bind (D1.item i _ _ _ l1 (draws_but D1 h1 sa.extBut Z.z1) fun x hb tkb px h1b sb => wpAny_pure ?_)
  have TOb : IsPair hb TO a b := sb.extBut _ _ Z.TOi1 (sa.extBut _ _ Z.TOz hTO)
  refine wpAny_bind (wpAny_seqItems TOb rfl ?_)
  refine wpAny_bind (wpAny_updateSeq_pair TOb fun hc TOc sc => ?_)
  replace TOc : IsPair hc TO x b := TOc
  refine wpAny_bind (wpAny_letGo (wpAny_pure ?_))
  refine wpAny_bind (wpAny_bind (wpAny_onRaise ?_))
  show wpAny _ _ (Builtin.SmallTypes.nextOf (.ref i2) >>= _) _ _ _
  refine wpAny_bind (D2.item i _ _ _ l2 (draws_but D2 (draws_but D2 (draws_but D2 h2 sa.extBut Z.z2) sb.extBut Z.q2) sc.extBut Z.o2) fun y hd tkd py h2d sd => wpAny_pure ?_)
  have TOd : IsPair hd TO x b := sd.extBut _ _ Z.TOi2 TOc
  refine wpAny_bind (wpAny_seqItems TOd rfl ?_)
  refine wpAny_bind (wpAny_updateSeq_pair TOd fun he TOe se => ?_)
  replace TOe : IsPair he TO x y := TOe
  refine wpAny_bind (wpAny_letGo (wpAny_pure (wpAny_pure ?_)))
  refine wpAny_bind (wpAny_seqItems TOe rfl ?_)
  refine wpAny_bind (wpAny_newTuple ?_)
  have hsz : he.objs.size = hp.objs.size := by rw [se.1, sd.1, sc.1, sb.1, sa.1]
  have ze : IsZip he z TI TO .ellipsis := se.extBut _ _ Z.TOz.symm (sd.extBut _ _ Z.i2z.symm (sc.extBut _ _ Z.TOz.symm (sb.extBut _ _ Z.i1z.symm za)))
  have ke : ∀ c o, c ≠ z → c ≠ TO → c ≠ i1 → c ≠ i2 → hp.get? c = some o → he.get? c = some o := fun c o c1 c2 c3 c4 e =>
    se.extBut _ _ c2 (sd.extBut _ _ c4 (sc.extBut _ _ c2 (sb.extBut _ _ c3 (sa.extBut _ _ c1 e))))
  have h1e : St1 (i + 1) he := draws_but D1 (draws_but D1 (draws_but D1 h1b sc.extBut Z.o1) sd.extBut Z.q1) se.extBut Z.o1
  have h2e : St2 (i + 1) he := draws_but D2 h2d se.extBut Z.o2
  have zlt : z < he.objs.size := Heap.lt_size ze
  show wpAny _ _ (Builtin.SmallTypes.ownedTupleHandOut (.ref z) (.ref he.objs.size) >>= _) _ _ _
  refine wpAny_bind ?_
  unfold Builtin.SmallTypes.ownedTupleHandOut
  have zf : IsZip (he.push { cls := .type "tuple", data := .seq #[x, y] }) z TI TO .ellipsis := Heap.get?_push_of_some _ ze
  refine wpAny_bind (wpAny_setField_rec zf (by simp) fun hg zg sg => ?_)
  replace zg : IsZip hg z TI TO (rawInt he.objs.size) := zg
  refine wpAny_setField_rec zg (by simp) fun hh zh sh => ?_
  replace zh : IsZip hh z TI TO (rawInt he.objs.size) := zh
  have up : ∀ c o, c ≠ z → he.get? c = some o → hh.get? c = some o := fun c o c1 e => sh.extBut _ _ c1 (sg.extBut _ _ c1 (Heap.get?_push_of_some _ e))
  have Th : IsPair hh he.objs.size x y := sh.extBut _ _ (Nat.ne_of_gt zlt) (sg.extBut _ _ (Nat.ne_of_gt zlt) (Heap.get?_push_size _ rfl))
  rw [hsz] at zh Th
  refine wpAny_pure ⟨_, rfl, ?_⟩
  show Q (.ref he.objs.size) _
  rw [hsz]
  exact hQ x y hh tkd px py zh (up _ _ Z.TOz TOe) (D1.frame _ _ _ h1e fun c hc o e => up c o (fun x => Z.z1 (x ▸ hc)) e) (D2.frame _ _ _ h2e fun c hc o e => up c o (fun x => Z.z2 (x ▸ hc)) e) Th fun c o c1 c2 c3 c4 e => up c o c1 (ke c o c1 c2 c3 c4 e)
/-- both sources of one length: the first one's end ends the zip -/
theorem zipD_end {a b : Value} {Q : Fin → Shared → Prop} (D1 : Draws prog w A i1 fp1 n1 P1 St1) (Z : ZA z TI TO i1 i2 fp1 fp2)
    (hz : IsZip s.heap z TI TO .none) (hTI : IsPair s.heap TI (.ref i1) (.ref i2)) (hTO : IsPair s.heap TO a b) (h1 : St1 n1 s.heap)
    (hE : ∀ h' e, (∀ c o, c ≠ z → c ≠ TO → c ≠ i1 → c ≠ i2 → s.heap.get? c = some o → h'.get? c = some o) → (∃ o, h'.get? e = some o ∧ o.cls = .type "StopIteration") → E (.ref e) { s with heap := h' }) :
    wpAny (model prog w) A (Builtin.«zip.__next__» ⟨[.ref z], []⟩) Q E s := by
  show wpAny _ _ (field (.ref z) 2 >>= _) _ _ _
  refine wpAny_bind (wpAny_field hz rfl (x := .bool false) rfl ?_)
  show wpAny _ _ (field (.ref z) 3 >>= _) _ _ _
  refine wpAny_bind (wpAny_field hz rfl (x := .ref TI) rfl ?_)
  refine wpAny_bind (wpAny_seqItems hTI rfl ?_)
  show wpAny _ _ (Builtin.SmallTypes.ownedTupleIsFree (.ref z) >>= _) _ _ _
  refine wpAny_bind ?_
  unfold Builtin.SmallTypes.ownedTupleIsFree
  refine wpAny_bind (wpAny_field hz rfl (x := .none) rfl (wpAny_pure ?_))
  simp only [if_true]
  refine wpAny_bind (wpAny_rule ?_)
  refine wpAny_bind (wpAny_field hz rfl (x := .ref TO) rfl ?_)
  refine wpAny_bind (wpAny_setField_rec hz (by simp) fun ha za sa => ?_)
  replace za : IsZip ha z TI TO .ellipsis := za
  refine wpAny_bind ?_
  simp only [List.zipIdx_cons, List.zipIdx_nil, List.forIn_cons, List.forIn_nil]
  refine wpAny_bind (wpAny_bind (wpAny_onRaise ?_))
  show wpAny _ _ (Builtin.SmallTypes.nextOf (.ref i1) >>= _) _ _ _
  refine wpAny_bind (D1.done _ _ _ (draws_but D1 h1 sa.extBut Z.z1) fun hb e sb hc => ?_)
  obtain ⟨oe, hoe, hce⟩ := hc
  have zb : IsZip hb z TI TO .ellipsis := sb _ _ Z.i1z.symm za
  have hez : e ≠ z := fun x => by subst x; rw [zb] at hoe; cases hoe; simp at hce
  refine wpAny_setField_rec zb (by simp) fun hd _ sd => hE hd e (fun c o c1 _ c3 _ x => sd.extBut _ _ c1 (sb _ _ c3 (sa.extBut _ _ c1 x))) ⟨oe, sd.extBut _ _ hez hoe, hce⟩
end
end Mine
end
section
open PySem PySem.W PyProof.Rows
set_option Elab.async false
namespace Mine
set_option maxRecDepth 100000
theorem wider {prog : Program} {w : World} {A : Around} {target : PySem.Expr} {I : Addr} {fp wr wr' : List Addr} {n : Nat} {P Md : Nat → Value → Heap → Prop} {St : Nat → Heap → Prop} (W : KTurns prog w A target I fp wr n P Md St) (h1 : ∀ b ∈ wr, b ∈ wr') (h2 : ∀ b ∈ wr', b ∈ fp) :
    KTurns prog w A target I fp wr' n P Md St where
  sub := h2
  frame := W.frame
  item := fun i s Q E hi st hQ => W.item i s Q E hi st fun v h' tk hm hk => hQ v h' tk hm fun b o hb => hk b o fun x => hb (h1 b x)
  go := fun i v s Q E hm hQ => W.go i v s Q E hm fun h' hP st hk => hQ h' hP st fun b o hb => hk b o fun x => hb (h1 b x)
  done := fun s Q E st hQ => W.done s Q E st fun h' tk hk => hQ h' tk fun b o hb => hk b o fun x => hb (h1 b x)
section
variable {prog : Program} {w : World} {A : Around} {E : Value → Shared → Prop} {s : Shared}
variable {z TI TO i1 i2 : Addr} {fp1 fp2 : List Addr} {n : Nat} {P1 P2 : Nat → Value → Prop} {St1 St2 : Nat → Heap → Prop}
theorem zipD_walks (hh : A.handled = none) (D1 : ∀ A' : Around, A'.handled = none → Draws prog w A' i1 fp1 n P1 St1) (D2 : ∀ A' : Around, A'.handled = none → Draws prog w A' i2 fp2 n P2 St2) (Z : ZA z TI TO i1 i2 fp1 fp2) :
    WalksT prog w A z (z :: TI :: TO :: (fp1 ++ fp2)) [z, TO, i1, i2] n (fun i vals => ∃ x y, P1 i x ∧ P2 i y ∧ vals = #[x, y])
      (fun i h => IsZip h z TI TO .none ∧ IsPair h TI (.ref i1) (.ref i2) ∧ (∃ a b, IsPair h TO a b) ∧ St1 i h ∧ St2 i h)
      (fun i T h => IsZip h z TI TO (rawInt T) ∧ IsPair h TI (.ref i1) (.ref i2) ∧ (∃ a b, IsPair h TO a b) ∧ St1 (i + 1) h ∧ St2 (i + 1) h ∧ T ≠ z ∧ T ≠ TO ∧ T ≠ i1 ∧ T ≠ i2) where
  sub := fun c hc => by
    have m1 := Z.m1
    have m2 := Z.m2
    simp at hc ⊢
    rcases hc with rfl | rfl | rfl | rfl <;> simp [*]
  frame := fun i h h' st hk => by
    obtain ⟨hz, hTI, ⟨a, b, hTO⟩, h1, h2⟩ := st
    exact ⟨hk z (by simp) _ hz, hk TI (by simp) _ hTI, ⟨a, b, hk TO (by simp) _ hTO⟩, (D1 A hh).frame _ _ _ h1 fun b hb o e => hk b (by simp [hb]) o e, (D2 A hh).frame _ _ _ h2 fun b hb o e => hk b (by simp [hb]) o e⟩
  item := fun i s Q E hi st hQ => by
    obtain ⟨hz, hTI, ⟨a, b, hTO⟩, h1, h2⟩ := st
    have hT : s.TypeIs (.ref z) "zip" := ⟨_, hz, rfl⟩
    have lt : ∀ {c o}, s.heap.get? c = some o → s.heap.objs.size ≠ c := fun e => Nat.ne_of_gt (Heap.lt_size e)
    obtain ⟨_, e1⟩ := (D1 A hh).live _ _ h1
    obtain ⟨_, e2⟩ := (D2 A hh).live _ _ h2
    unfold pyNext
    refine wpAny_bind (wpAny_attempt (wpAny_callSpecial?_slot (name := Str.ofString "__next__") hT F.slot_zip_next
      (wpAny_call_entry F.slot_zip_next hT F.entry_zip_next
        (zipD_item (D1 _ hh) (D2 _ hh) Z hz hTI hTO h1 h2 hi hi fun x y h' tk px py a1 a2 a3 a4 a5 hk => wpAny_pure ?_) (F.args_zip_next_1 _))))
    exact hQ s.heap.objs.size #[x, y] h' tk ⟨x, y, px, py, rfl⟩ (Nat.le_refl _) ⟨_, a5, rfl, _, rfl⟩
      ⟨a1, hk _ _ Z.TIz Z.TITO Z.TIi1 Z.TIi2 hTI, ⟨_, _, a2⟩, a3, a4, lt hz, lt hTO, lt e1, lt e2⟩
      fun c o hc e => hk c o (fun x => hc (by simp [x])) (fun x => hc (by simp [x])) (fun x => hc (by simp [x])) (fun x => hc (by simp [x])) e
  go := fun elts k pos i T s Q E hm hQ => by
    obtain ⟨hz, hTI, ⟨a, b, hTO⟩, h1, h2, _⟩ := hm
    refine wpAny_letOwnedTupleGo_zip hz fun h' hz' hs' => hQ h' ⟨hz', hs'.extBut _ _ Z.TIz hTI, ⟨a, b, hs'.extBut _ _ Z.TOz hTO⟩, draws_but (D1 A hh) h1 hs'.extBut Z.z1, draws_but (D2 A hh) h2 hs'.extBut Z.z2⟩ fun c o hc e => hs'.extBut _ _ (fun x => hc (by simp [x])) e
  apart := fun i T h hm hT => by
    obtain ⟨_, _, _, _, _, t1, t2, t3, t4⟩ := hm
    simp at hT
    rcases hT with rfl | rfl | rfl | rfl
    · exact t1 rfl
    · exact t2 rfl
    · exact t3 rfl
    · exact t4 rfl
  done := fun s Q E st hQ => by
    obtain ⟨hz, hTI, ⟨a, b, hTO⟩, h1, h2⟩ := st
    have hT : s.TypeIs (.ref z) "zip" := ⟨_, hz, rfl⟩
    unfold pyNext
    refine wpAny_bind (wpAny_attempt (wpAny_callSpecial?_slot (name := Str.ofString "__next__") hT F.slot_zip_next
      (wpAny_call_entry F.slot_zip_next hT F.entry_zip_next (zipD_end (D1 _ hh) Z hz hTI hTO h1 fun h' e hk he => ?_) (F.args_zip_next_1 _))))
    obtain ⟨o, ho, hc⟩ := he
    refine wpAny_bind (wpAny_isInstance (T := "StopIteration") (b := true) ⟨o, ho, hc⟩ isSubtype_stop ?_)
    exact wpAny_pure (hQ h' s.toks fun c o hc e => hk c o (fun x => hc (by simp [x])) (fun x => hc (by simp [x])) (fun x => hc (by simp [x])) (fun x => hc (by simp [x])) e)
  self := fun i s Q E st hQ => wpAny_pyIter_zip st.1 hQ
end
abbrev zls1 (h : Heap) (l : Addr) : Heap := h.push { cls := .type "list_iterator", data := .fields #[.ref l, .int 0 0] }
abbrev zls2 (h : Heap) (l : Addr) (x : Str) (t : Tok) : Heap := (zls1 h l).push { cls := .type (strIterType x), data := .fields #[.str x t, .int 0 0] }
abbrev zls3 (h : Heap) (l : Addr) (x : Str) (t : Tok) : Heap := (zls2 h l x t).push { cls := .type "tuple", data := .seq #[.ref h.objs.size, .ref (zls1 h l).objs.size] }
abbrev zls4 (h : Heap) (l : Addr) (x : Str) (t : Tok) : Heap := (zls3 h l x t).push { cls := .type "tuple", data := .seq #[.none, .none] }
abbrev zls5 (h : Heap) (l : Addr) (x : Str) (t : Tok) : Heap := (zls4 h l x t).push { cls := .type "zip", data := .fields #[.none, .bool false, .bool false, .ref (zls2 h l x t).objs.size, .ref (zls3 h l x t).objs.size] }
set_option maxHeartbeats 2000000 in
theorem meets_zip_ls (l : Addr) (xs : Array Value) (x : Str) (t : Tok) :
    Meets (Builtin.«zip.__new__» ⟨[.type "zip", .ref l, .str x t], []⟩) (fun _ R s => s.heap.IsList l xs ∧
      R (.ok (.ret (.ref (zls4 s.heap l x t).objs.size))) { s with heap := zls5 s.heap l x t }) :=
  .of_wp fun prog w A R s h => by
    obtain ⟨hp, g, d, tk, os⟩ := s; obtain ⟨hl1, h⟩ := h
    have hsub := sub_zip
    have hL1 : Heap.IsList (Shared.heap ⟨hp, g, d, tk, os⟩) l xs := hl1
    wp_walk using wpAny_pyIter_list hL1, wpAny_pyIter_strU
    exact ⟨_, rfl, h⟩
section
variable {prog : Program} {w : World} {A : Around} {E : Value → Shared → Prop} {s : Shared}
theorem call_zip_ls {l : Addr} {xs : Array Value} {x : Str} {t : Tok} {Q : Value → Shared → Prop} (hl1 : s.heap.IsList l xs)
    (h : ∀ h', IsZip h' (s.heap.objs.size + 4) (s.heap.objs.size + 2) (s.heap.objs.size + 3) .none → IsPair h' (s.heap.objs.size + 2) (.ref s.heap.objs.size) (.ref (s.heap.objs.size + 1)) →
      IsPair h' (s.heap.objs.size + 3) .none .none → h'.IsListIter s.heap.objs.size l 0 → h'.IsStrIter (s.heap.objs.size + 1) (strIterType x) x t 0 → h'.objs.size = s.heap.objs.size + 5 →
      (∀ c o, s.heap.get? c = some o → h'.get? c = some o) → Q (.ref (s.heap.objs.size + 4)) { s with heap := h' }) :
    wpAny (model prog w) A (call (.type "zip") [.ref l, .str x t]) Q E s := by
  refine callType_new F.called_zip (by decide) (F.typeCall_zip_2 _ _) (F.newCall_zip_2 _ _) (fun obj => F.args_object_init_3 obj _ _) F.entry_zip_new
    (meets_zip_ls l xs x t) ⟨hl1, ?_⟩
  have z1 : (zls1 s.heap l).objs.size = s.heap.objs.size + 1 := Heap.size_push ..
  have z2 : (zls2 s.heap l x t).objs.size = s.heap.objs.size + 2 := by rw [Heap.size_push, z1]
  have z3 : (zls3 s.heap l x t).objs.size = s.heap.objs.size + 3 := by rw [Heap.size_push, z2]
  have z4 : (zls4 s.heap l x t).objs.size = s.heap.objs.size + 4 := by rw [Heap.size_push, z3]
  have z5 : (zls5 s.heap l x t).objs.size = s.heap.objs.size + 5 := by rw [Heap.size_push, z4]
  have g5 : (zls5 s.heap l x t).get? (zls4 s.heap l x t).objs.size = some _ := Heap.get?_push_size _ rfl
  have g4 : (zls5 s.heap l x t).get? (zls3 s.heap l x t).objs.size = some _ := Heap.get?_push_of_some _ (Heap.get?_push_size _ rfl)
  have g3 : (zls5 s.heap l x t).get? (zls2 s.heap l x t).objs.size = some _ := Heap.get?_push_of_some _ (Heap.get?_push_of_some _ (Heap.get?_push_size _ rfl))
  have g2 : (zls5 s.heap l x t).get? (zls1 s.heap l).objs.size = some _ := Heap.get?_push_of_some _ (Heap.get?_push_of_some _ (Heap.get?_push_of_some _ (Heap.get?_push_size _ rfl)))
  have g1 : (zls5 s.heap l x t).get? s.heap.objs.size = some _ := Heap.get?_push_of_some _ (Heap.get?_push_of_some _ (Heap.get?_push_of_some _ (Heap.get?_push_of_some _ (Heap.get?_push_size _ rfl))))
  show _ ∧ _
  rw [z2, z3, z4] at g5
  rw [z1, z2] at g3
  rw [z3] at g4
  rw [z1] at g2
  rw [z4]
  exact ⟨⟨_, g5, rfl⟩, h _ g5 g3 g4 ⟨_, g1, rfl, rfl⟩ ⟨_, g2, rfl, rfl⟩ z5 fun c o x =>
    Heap.get?_push_of_some _ (Heap.get?_push_of_some _ (Heap.get?_push_of_some _ (Heap.get?_push_of_some _ (Heap.get?_push_of_some _ x))))⟩
end
end Mine
end
section
open PySem PySem.W PyProof.Rows PyProof.Rows.LCg
set_option Elab.async false
namespace Mine
set_option maxRecDepth 100000
section
variable {prog : Program} {w : World} {A : Around} {E : Value → Shared → Prop} {s : Shared} {h₀ : Heap} {L : Addr} {m : Str → Option Value} {env : Env}
theorem all5 {P : Addr → Prop} {a b c d e : Addr} (ha : P a) (hb : P b) (hc : P c) (hd : P d) (he : P e) : ∀ x ∈ [a, b, c, d, e], P x :=
  List.forall_mem_cons.mpr ⟨ha, List.forall_mem_cons.mpr ⟨hb, List.forall_mem_cons.mpr ⟨hc, List.forall_mem_cons.mpr ⟨hd, List.forall_mem_cons.mpr ⟨he, fun _ h => nomatch h⟩⟩⟩⟩⟩
theorem z_up {a k : Nat} : a + (k + 1) ≠ a := by omega
theorem z_dn {a k : Nat} : a ≠ a + (k + 1) := by omega
theorem z_ne {I a b : Nat} (h : a ≠ b) : I + a ≠ I + b := fun e => h (Nat.add_left_cancel e)
theorem nat_ne_add {a I : Nat} (k : Nat) (h : a < I) : a ≠ I + k := by omega
theorem LC_Z {elt iter : PySem.Expr} {elts : List PySem.Expr} {kk : Nat} {tp : Pos} {ifs : List PySem.Expr} {scope : Scope} {cl : List (Str × Addr)} {pos : Pos} {l : Addr} {x : Str} {t : Tok} {vs : List Value} {n : Nat} {news : Ledger} {Q : Value → Shared → Prop}
    (hh : A.handled = none) (F : Fr h₀ L s.heap m) (N : News h₀ L s.heap news) (hm : (l, listOf vs.toArray n) ∈ news) (hasc : x.cps.all (· < 128) = true) (hlen : x.cps.size = vs.length) (hz : vs.length ≤ sizeLine) (hcell : ∀ y ∈ scope.names, y.2 ≠ .cell)
    (J : Nat → List Value → Ledger → Prop) (hJk : ∀ i ys nx, J i ys nx → (l, listOf vs.toArray n) ∈ nx) (hJl : ∀ i ys nx, J i ys nx → ys.length ≤ i) (h0 : J 0 [] news)
    (turn : ∀ i v c u T wr ys nx h tk its C D oC m₂, vs[i]? = some v → x.cps[i]? = some c → h.IsTuple T #[v, .str ⟨#[c]⟩ u] → J i ys nx → NsObj oC m₂ → (∀ p ∈ (D, lst ys) :: (its ++ nx), p.1 ≠ C) → (∀ p ∈ its ++ nx, p.1 ≠ D) → (∀ b ∈ wr, ∃ o, (b, o) ∈ its) → (∀ p ∈ nx, p.1 ∉ wr) → (∀ p ∈ news, p.1 < D) → (∀ p ∈ news, p.1 < C) →
      Fr h₀ L h m → News h₀ L h ((C, oC) :: (D, lst ys) :: (its ++ nx)) →
      wpAny (model prog w) A (assign (.Tuple elts kk tp) (compEnvC scope cl C env) (.ref T)) (fun _ s₂ => wpAny (model prog w) A (testsOf (compEnvC scope cl C env) ifs) (fun ok s₃ =>
        if ok = true then wpAny (model prog w) A (eval elt (compEnvC scope cl C env)) (fun y s₄ => CEnd h₀ L m wr D [C] ys (BxA C) its (J (i + 1) (ys ++ [y])) { s with heap := h, toks := tk } s₄) (fun _ _ => False) s₃
        else CEnd h₀ L m wr D [C] ys (BxA C) its (J (i + 1) ys) { s with heap := h, toks := tk } s₃) (fun _ _ => False) s₂) (fun _ _ => False) { s with heap := h, toks := tk })
    (done : ∀ D h tk ys nx, J vs.length ys nx → (∀ p ∈ nx, p.1 ≠ D) → (∀ p ∈ news, p.1 < D) → Fr h₀ L h m → News h₀ L h ((D, lst ys) :: nx) → Q (.ref D) { s with heap := h, toks := tk }) :
    wpAny (model prog w) A (call (.type "zip") [.ref l, .str x t]) (fun xv s₁ => wpAny (model prog w) A (pyIter xv) (fun it s₂ => CRest prog w A E env elt (.Tuple elts kk tp) iter ifs scope cl pos none Q it s₂) E s₁) E s := by
  have hax := N _ hm
  have hl : s.heap.IsList l vs.toArray := ⟨_, hax.1, rfl, n, rfl⟩
  have hlt : l < s.heap.objs.size := Heap.lt_size hax.1
  have hLlt : L < s.heap.objs.size := F.ns.lt
  refine call_zip_ls hl fun h' hz' hTI hTO h1 h2 hsz hk => ?_
  refine wpAny_pyIter_zip hz' ?_
  generalize hI : s.heap.objs.size = I at *
  rw [show strIterType x = "str_ascii_iterator" from if_pos hasc] at h2
  have D1 : ∀ A' : Around, A'.handled = none → Draws prog w A' I [I, l] vs.length (fun i v => vs[i]? = some v) (fun i h => h.IsListIter I l i ∧ h.IsList l vs.toArray) := fun A' hA => by
    have := Draws.list (prog := prog) (w := w) hA I l (Nat.ne_of_lt hlt) vs.toArray
    simpa using this
  have D2 : ∀ A' : Around, A'.handled = none → Draws prog w A' (I + 1) [I + 1] vs.length (fun i v => ∃ c u, x.cps[i]? = some c ∧ v = .str ⟨#[c]⟩ u) (fun i h => h.IsStrIter (I + 1) "str_ascii_iterator" x t i) := fun A' hA => by
    have := Draws.strAscii (prog := prog) (w := w) hA (I + 1) x t
    rw [hlen] at this
    exact this
  have Z : ZA (I + 4) (I + 2) (I + 3) I (I + 1) [I, l] [I + 1] := by
    have q0 : @LT.lt Nat _ l I := hlt
    constructor
    all_goals first | exact z_up | exact z_dn | exact z_ne (by decide) | (show @Ne Nat _ _; omega) | (simp; done) | (intro hc; simp only [List.mem_cons, List.not_mem_nil, or_false] at hc; revert hc; show ¬ (@Eq Nat _ _ ∨ @Eq Nat _ _); omega) | (intro hc; rw [List.mem_singleton] at hc; revert hc; show ¬ @Eq Nat _ _; omega)
  have W := wider (wr' := [I + 4, I + 2, I + 3, I, I + 1]) (KTurns.ofWalksU (elts := elts) (k := kk) (pos := tp) (zipD_walks (A := A) hh D1 D2 Z).toU) (by intro b hb; simp only [List.mem_cons, List.not_mem_nil, or_false] at hb ⊢; rcases hb with h | h | h | h <;> simp [h]) (by intro b hb; simp only [List.mem_cons, List.not_mem_nil, or_false, List.mem_append] at hb ⊢; rcases hb with h | h | h | h | h <;> simp [h])
  have new : ∀ k, h₀.get? (I + k) = none := fun k => by
    cases e : h₀.get? (I + k) with
    | none => rfl
    | some o => exact absurd (Heap.lt_size (F.keep _ o e)) (by rw [hI]; exact Nat.not_lt.mpr (Nat.le_add_right _ _))
  refine block_A (keep := [(l, listOf vs.toArray n)]) (news := news) W hz ?_ ?_ ?_ (fun s' Q' E' st q => wpAny_pyIter_zip st.1 q) ?_ ?_ ?_ (F.keeps hk) (N.grown hk) ?_ hcell J (fun i ys nx hj p hp => by rw [List.mem_singleton.mp hp]; exact hJk i ys nx hj) hJl h0 ?_ ?_
  · exact all5 (new 4) (new 2) (new 3) (new 0) (new 1)
  · exact List.forall_mem_cons.mpr ⟨.inl (.head _), all5 (.inl (.tail _ (.head _))) (.inl (.tail _ (.tail _ (.head _)))) (.inl (.tail _ (.tail _ (.tail _ (.head _))))) (.inr (.inl ⟨_, .head _⟩)) (.inl (.tail _ (.tail _ (.tail _ (.tail _ (.head _))))))⟩
  · rintro i h ⟨hz, hTI, ⟨a, b', hTO⟩, ⟨⟨o1, ho1, _⟩, _⟩, ⟨o2, ho2, _⟩⟩
    exact all5 ⟨_, hz⟩ ⟨_, hTI⟩ ⟨_, hTO⟩ ⟨_, ho1⟩ ⟨_, ho2⟩
  · exact fun hb => all5 (P := fun x => @Ne Nat L x) (nat_ne_add 4 hLlt) (nat_ne_add 2 hLlt) (nat_ne_add 3 hLlt) (nat_ne_add 0 hLlt) (nat_ne_add 1 hLlt) _ hb rfl
  · intro b hb
    show b < h'.objs.size
    rw [hsz]
    revert b
    refine all5 ?_ ?_ ?_ ?_ ?_
    all_goals first | exact @Nat.add_lt_add_left 4 5 (by decide) I | exact @Nat.add_lt_add_left 3 5 (by decide) I | exact @Nat.add_lt_add_left 2 5 (by decide) I | exact @Nat.add_lt_add_left 1 5 (by decide) I | exact Nat.lt_succ_of_le (Nat.le_add_right I 4)
  · exact ⟨hz', hTI, ⟨_, _, hTO⟩, ⟨h1, hl.at fun o e => hk _ o e⟩, h2⟩
  · intro p hp hb
    have hp' : @LT.lt Nat _ p.1 I := by rw [← hI]; exact Heap.lt_size (N p hp).1
    exact all5 (P := fun x => @Ne Nat p.1 x) (nat_ne_add 4 hp') (nat_ne_add 2 hp') (nat_ne_add 3 hp') (nat_ne_add 0 hp') (nat_ne_add 1 hp') _ hb rfl
  · rintro i v ys nx h tk its C D oC m₂ hi ⟨T, vals, rfl, ⟨a, b, ha, ⟨c, u, hc, rfl⟩, rfl⟩, hT⟩ hj hn q1 q2 q3 q4 q5 q6 q7 F' N'
    exact turn i a c u T _ ys nx h tk its C D oC m₂ ha hc hT hj hn q1 q2 q4 q5 q6 q7 F' N'
  · intro D C h tk ys nx oC m' hj hn q1 q2 q3 q4 q5 F' N'
    exact doneE hn q1 q4 q5 F' N' fun h2 F2 N2 => done D h2 tk ys nx hj q2 q3 F2 N2
end
end Mine
end
section
open PySem PySem.W PyProof.Rows PyProof.Rows.LCg
set_option Elab.async false
namespace Mine
set_option maxRecDepth 100000
local macro_rules | `(tactic| k_mem) => `(tactic| assumption)
local macro_rules | `(tactic| k_all) => `(tactic| assumption)
local macro_rules | `(tactic| walk_at "eval ListComp") => `(tactic| refine halt ?_)
local macro_rules | `(tactic| walk_at "pyIter ref") => `(tactic| refine halt ?_)
local macro_rules | `(tactic| walk_at "binaryOp Add ref ref") => `(tactic| refine halt ?_)
local macro_rules | `(tactic| walk_at "call builtin:len") => `(tactic| refine halt ?_)
local macro_rules | `(tactic| walk_at "subscriptTail Name Slice ref ref") => `(tactic| refine halt ?_)
local macro_rules | `(tactic| walk_at "storeName") => `(tactic| ((with_reducible show wpAny _ _ (storeName _ (Str.ofString "word") _) _ _ _); refine halt ?_))
local macro_rules | `(tactic| walk_at "storeName") => `(tactic| ((with_reducible show wpAny _ _ (storeName _ (Str.ofString "keys") _) _ _ _); refine halt ?_))
local macro_rules | `(tactic| walk_at "storeName") => `(tactic| ((with_reducible show wpAny _ _ (storeName _ (Str.ofString "judge") _) _ _ _); refine halt ?_))
local macro_rules | `(tactic| walk_at "storeName") => `(tactic| ((with_reducible show wpAny _ _ (storeName _ (Str.ofString "entries") _) _ _ _); refine halt ?_))
local macro_rules | `(tactic| walk_at "storeName") => `(tactic| ((with_reducible show wpAny _ _ (storeName _ (Str.ofString "sums") _) _ _ _); refine halt ?_))
local macro_rules | `(tactic| walk_at "storeName") => `(tactic| ((with_reducible show wpAny _ _ (storeName _ (Str.ofString "rises") _) _ _ _); refine halt ?_))
local macro_rules | `(tactic| walk_at "storeName") => `(tactic| ((with_reducible show wpAny _ _ (storeName _ (Str.ofString "plain") _) _ _ _); refine halt ?_))
local macro_rules | `(tactic| walk_at "eval Name") => `(tactic| (k_here; k_dflt (refine' nameX_L ?F ?v ?_ ?a ?b; (case F => k_asm); (case a => rfl); (case b => rfl); (case v => assumption); k_whole)))
theorem fillSegA : (PySem.Challenge.rw_pg0156_01, hd.heap_39) = (PySem.Challenge.rw_pg0156_01, hd.heap_39) := by k_fill; rfl
section
local macro_rules | `(tactic| walk_at "call builtin:sum") => `(tactic| refine halt ?_)
local macro_rules | `(tactic| walk_at "subscriptTail Constant Slice str ref") => `(tactic| refine halt ?_)
theorem isList_up {g h' : Heap} {L l : Addr} {m' : Str → Option Value} {its : Array Value} (F : Fr g L h' m') (hl : g.IsList l its) : h'.IsList l its := by
  obtain ⟨o, h1, h2⟩ := hl
  exact ⟨o, F.keep _ _ h1, h2⟩
set_option maxHeartbeats 1000000 in
theorem segA {ns : List Int} (H : Seg 6 (StB ns)) : Seg 0 (StA ns) := by
  rintro w p loose mean mg mb dp un gd outer A₀ base g L fa cd s m nx B X T C hL hd hu F N ⟨l, vs, o1, o2, o3, o4, o5, o6, o7, ms, hl, hi, hn, rfl, d1, d2, d3, d4, d5, d6, d7⟩
  show wpAny _ _ (execs lawRec.body _) _ _ _
  dsimp only [lawRec, recOf]
  k_steps
  have keepL : ∀ {h' : Heap} {m' : Str → Option Value}, Fr g L h' m' → h'.IsList l vs.toArray := fun F => isList_up F hl
  have hvl := hi.length
  refine kmk_slice_lit (its := vs.toArray) (zs := vs.take 4) F N (keepL F) .none (.int _ _) (slicePick_upto' _ 4 ▸ by simp) ?_ (by with_unfolding_all rfl) (by intro _; with_unfolding_all rfl) (by simp only [List.size_toArray, sizeLine_eq]; omega)
  intro D1 h1 F1 N1 l1
  clear F N
  k_steps
  all_goals (try dsimp only)
  rename_i D2 h2 F2 N2 l2
  refine kmk_add_lit F2 N2 (isList_at N2 (.tail _ (.head _))) (isList_at N2 (.head _)) rfl ?_ (by simp [sizeLine_eq]; omega)
  intro D3 h3 F3 N3 l3
  clear F2 N2
  generalize hz : (List.take 4 vs).toArray.toList ++ _ = zs at N3
  have hzn : All2 (IntV []) zs (numsL ns) := by
    rw [← hz]
    exact ((all2_ints hi).take 4).append (.cons ⟨_, rfl⟩ (.cons ⟨_, rfl⟩ (.cons ⟨_, rfl⟩ .nil)))
  have hzl := hzn.length
  have hnl := numsL_len ns
  clear hz
  k_steps
  all_goals (try dsimp only)
  rename_i h4 F4 N4
  refine len_at N4 (.head _) (by omega) ?_
  rw [hzl]
  k_steps
  all_goals (try dsimp only)
  rename_i h5 F5 N5
  rw [word_slice hnl.2]
  have n3 : OffR L [(D3, listOf zs.toArray 0)] := fun q hq => by rw [List.mem_singleton.mp hq]; exact l3 _ (.tail _ (.tail _ (.head _)))
  replace N5 : News g L _ (cells7 L o1 o2 o3 o4 o5 o6 o7 ++ (88, tabObj #[]) :: [(D3, listOf zs.toArray 0)]) := (news_in (add := [(D3, listOf zs.toArray 0)]) (R := []) (News.sub N5 fun q hq => by
    rcases List.mem_cons.mp hq with rfl | hq
    · exact .head _
    · exact .tail _ (.tail _ (.tail _ hq))))
  refine put_word F5 N5 d1 (n3.offC hL) fun h6 o1' F6 N6 d1' => ?_
  clear F5 N5 d1
  k_steps
  refine kmk_slice_lit (its := vs.toArray) (zs := vs.take 3) F6 N6 (keepL F6) .none (.int _ _) (slicePick_upto' _ 3 ▸ by simp) ?_ (by with_unfolding_all rfl) (by intro _; with_unfolding_all rfl) (by simp only [List.size_toArray, sizeLine_eq]; omega)
  intro D4 h7 F7 N7 l7
  clear F6 N6
  k_steps
  all_goals (try dsimp only)
  refine PyProof.Rows.LSm.sum_ints (ns := ns.take 3) F7 N7 rfl (isList_at N7 (.head _)) (ints_of ((all2_ints hi).take 3)) fun h8 tk8 t8 F8 N8 => ?_
  clear F7 N7
  replace N8 : News g L h8 (cells7 L o1' o2 o3 o4 o5 o6 o7 ++ [(88, tabObj #[]), (D3, listOf zs.toArray 0)]) := News.sub N8 fun q hq => .tail _ hq
  k_steps
  all_goals (try dsimp only)
  rename_i h9 F9 N9
  refine PyProof.Rows.len_list (keepL F9) (by simp; omega) ?_
  rw [List.size_toArray, hvl]
  k_steps
  all_goals (try dsimp only)
  rename_i T1 g1 m1 T2 g2 m2 T3 g3 m3 lk g4 F10 N10 m4
  have hoff : ∀ q ∈ cells7 L o1' o2 o3 o4 o5 o6 o7 ++ [(88, tabObj #[]), (D3, listOf zs.toArray 0)], q.1 < T1 := m1
  have q0 : @LT.lt Nat _ (L + 7) T1 := m1 (L + 1 + 1 + 1 + 1 + 1 + 1 + 1, o7) (List.mem_append_left _ (.head _))
  have q1 : @LT.lt Nat _ T1 T2 := m2.1
  have q2 : @LT.lt Nat _ T2 T3 := m3.1
  have q3 : @LT.lt Nat _ T3 lk := m4.1
  have hR : ∃ R, OffR L R ∧ (D3, listOf zs.toArray 0) ∈ R ∧ KeysIn R lk (keysL ns) ∧ News g L g4 (cells7 L o1' o2 o3 o4 o5 o6 o7 ++ (88, tabObj #[]) :: R) := by
    refine ⟨_, ((((n3.cons q0).cons ?_).cons ?_).cons ?_), .tail _ (.tail _ (.tail _ (.tail _ (.head _)))), ⟨[.ref T1, .ref T2, .ref T3], _, .head _, ?_⟩, news_in (add := [_, _, _, _]) (R := [(D3, listOf zs.toArray 0)]) N10⟩
    · exact Nat.lt_trans q0 q1
    · exact Nat.lt_trans q0 (Nat.lt_trans q1 q2)
    · exact Nat.lt_trans q0 (Nat.lt_trans q1 (Nat.lt_trans q2 q3))
    · exact .cons ⟨_, _, _, _, rfl, .tail _ (.tail _ (.tail _ (.head _)))⟩ (.cons ⟨_, _, _, _, rfl, .tail _ (.tail _ (.head _))⟩ (.cons ⟨_, _, _, _, rfl, .tail _ (.head _)⟩ .nil))
  obtain ⟨R, nR, hnR, hkR, N11⟩ := hR
  refine put_keys F10 N11 d2 (nR.offC hL) fun h12 o2' F12 N12 d2' => ?_
  clear F10 N10 N11 d2 hoff q0 q1 q2 q3 n3
  k_steps
  all_goals (try dsimp only)
  refine call_cls F12 X N12 (by k_is) (by k_is) (by k_is) fun x dx h13 F13 N13 l13 l13' => ?_
  clear F12 N12
  refine' code_def ?k1 ?k2 ?k3 ?k4 ?k5 ?kA ?kF ?kK ?k6 ?k7 ?k8 ?k9 ?kB ?_ ?c2 ?c3 ?c4 ?c5; (case kA => exact rfl); (case kF => exact rfl); (case kK => exact rfl); (case k1 => k_asm); (case k2 => k_asm); (case k3 => k_asm); (case k4 => k_asm); (case k5 => k_asm); (case k6 => k_is); (case k7 => k_is); (case k8 => show dp + 1 < recursionLimit; omega); (case k9 => exact BindsTo.of_eq rfl); (case c5 => decide); (case kB => exact locs rfl); (case c2 => exact rfl); (case c3 => exact rfl); (case c4 => exact rfl)
  intro g' L' h' FG' F' N' B' X' T'
  dsimp only
  have e1 : @Ne Nat x dx := Nat.ne_of_gt l13'
  have e2 : ∀ q ∈ (cells7 L o1' o2' o3 o4 o5 o6 o7 ++ (88, tabObj #[]) :: R : Ledger), q.1 ≠ dx := fun q hq => Nat.ne_of_lt (l13 q hq)
  k_steps
  all_goals (try dsimp only)
  unfold Halt
  rename_i F14 N14 _ _
  have q0 : @LT.lt Nat _ (L + 7) dx := l13 (L + 1 + 1 + 1 + 1 + 1 + 1 + 1, o7) (List.mem_append_left _ (.head _))
  replace N14 := news_in (add := [_, _]) N14
  have nR2 : ∀ a b, OffR L ((x, a) :: (dx, b) :: R) := fun a b => (nR.cons q0).cons (Nat.lt_trans q0 l13')
  refine put_judge F14 N14 d3 (OffR.offC (nR2 _ _) hL) fun h15 o3' F15 N15 d3' => ?_
  clear F14 N14
  refine H w p loose mean mg mb dp un gd outer A₀ base g L fa cd _ _ _ B X T C hL hd hu F15 N15 ⟨_, _, _, _, _, _, _, _, _, _, lk, _, _, rfl, nR2 _ _, d1', d2', d3', d4, d5, d6, d7, rfl, rfl, ⟨_, _, _, rfl, .tail _ (.tail _ hnR), hzn⟩, hkR.mono fun q hq => .tail _ (.tail _ hq), ⟨_, _, _, _, _, rfl, .head _, .tail _ (.head _), hkR.mono fun q hq => .tail _ (.tail _ hq)⟩⟩
end
local macro_rules | `(tactic| walk_at "exec Assign cons ListComp") => `(tactic| refine halt ?_)
local macro_rules | `(tactic| walk_at "call ref") => `(tactic| refine halt ?_)
local macro_rules | `(tactic| walk_at "call type:zip") => `(tactic| refine halt ?_)
local macro_rules | `(tactic| walk_at "compareOp NotEq ref ref") => `(tactic| refine halt ?_)
local macro_rules | `(tactic| walk_at "compareOp Eq ref ref") => `(tactic| refine halt ?_)
local macro_rules | `(tactic| walk_at "call type:list") => `(tactic| refine halt ?_)
local macro_rules | `(tactic| walk_at "subscriptTail Name Name ref int") => `(tactic| refine halt ?_)
section
set_option maxHeartbeats 1000000 in
theorem segB {ns : List Int} (H : Seg 7 (StC ns)) : Seg 6 (StB ns) := by
  rintro w p loose mean mg mb dp un gd outer A₀ base g L fa cd s m nx B X T C hL hd hu F N ⟨o1, o2, o3, o4, o5, o6, o7, R, tw, tm, lk, jv, nv, rfl, hR, d1, d2, d3, d4, d5, d6, d7, mM, mN, ⟨nl, nvs, nn, rfl, hn1, hn2⟩, hK, hJ⟩
  show wpAny _ _ (execs (lawRec.body.drop 6) _) _ _ _
  dsimp only [lawRec, recOf, List.drop]
  have hnl := numsL_len ns
  have hvl := hn2.length
  k_steps
  all_goals (try dsimp only)
  refine LC_assign (by with_unfolding_all rfl) (by with_unfolding_all rfl) (by rfl) (by decide) ?_
  k_steps
  all_goals (try dsimp only)
  generalize hNX : (cells7 L o1 o2 o3 o4 o5 o6 o7 ++ (88, tabObj #[]) :: R : Ledger) = NX at N
  have hRX : ∀ q ∈ R, q ∈ NX := fun q hq => by rw [← hNX]; exact in_R hq
  have hoX : (L + 1 + 1 + 1 + 1 + 1 + 1 + 1, o7) ∈ NX := by rw [← hNX]; exact List.mem_append_left _ (.head _)
  refine iter_list rfl F N (hRX _ hn1) (by rw [sizeLine_eq]; omega) fun I fp P Md St gg K hPi => ?_
  refine LC_AV (K _) (by decide) (fun i ys nx => ∃ Ad, nx = Ad ++ NX ∧ Above Ad NX ∧ All2 (ColIn Ad) ys (((numsL ns).take i).map colOf)) ?_ ?_ ⟨[], rfl, Above.nil, .nil⟩ ?_ ?_
  · rintro i ys nx ⟨Ad, rfl, _⟩ p hp
    rw [List.mem_singleton.mp hp]
    exact List.mem_append_right _ (hRX _ hn1)
  · rintro i ys nx ⟨Ad, rfl, _, hy⟩
    rw [hy.length, List.length_map]
    exact List.length_take_le _ _
  · rintro i v ys nx h tk oI C1 D oC m₂ hi hP ⟨Ad, rfl, hAd, hy⟩ hn hCo hDo hIo hnD hnC F7 N7
    obtain ⟨x, hx, tx, rfl⟩ := hn2.get (hPi i v _ hP)
    clear F N
    refine wpAny_assign_Name (store_LC F7 N7 hn hCo fun h8 oC8 F8 N8 hn8 => ?_)
    clear F7 N7
    refine wpAny_tests_nil ?_
    refine ite_go ?_
    replace N8 : News g L h8 ((C1, oC8) :: (D, lst ys) :: (I, oI) :: (Ad ++ NX)) := N8
    have uC : (C1, oC8) ∈ (C1, oC8) :: (D, lst ys) :: (I, oI) :: (Ad ++ NX) := .head _
    generalize hN4 : ((C1, oC8) :: (D, lst ys) :: (I, oI) :: (Ad ++ NX) : Ledger) = NX4 at N8 uC
    have mk : (fun y => if y = Str.ofString "v" then some (Value.int x tx) else m₂ y) (Str.ofString "v") = some (Value.int x tx) := if_pos rfl
    generalize (fun y => if y = Str.ofString "v" then some (Value.int x tx) else m₂ y) = m8 at hn8 mk
    dsimp only
    k_steps
    all_goals (try dsimp only)
    rename_i T9 h9 F9 N9 l9
    try dsimp only at N9
    obtain ⟨TT, ⟨t0', t1', t2', nT, hTT⟩, N9⟩ : ∃ TT, (∃ a b c n, TT = tupO [.int (x.fmod 5 - 2) a, .int ((x.fdiv 5).fmod 5 - 2) b, .int ((x.fdiv 25).fmod 3 - 1) c] n) ∧ News g L h9 ((T9, TT) :: NX4) := ⟨_, ⟨_, _, _, _, rfl⟩, N9⟩
    subst hN4
    refine ⟨_, _, oC8, m8, (T9, TT) :: (Ad ++ NX), rfl, F9, News.sub N9 mv4, hn8, ?_, (T9, TT) :: Ad, rfl, hAd.cons fun q hq => l9 q (.tail _ (.tail _ (.tail _ (List.mem_append_right _ hq)))), ?_⟩
    · intro q hq
      simp only [List.mem_cons, List.not_mem_nil, or_false, not_or]
      rcases List.mem_cons.mp hq with rfl | hq
      · exact ⟨Nat.ne_of_gt (l9 _ (.tail _ (.tail _ (.head _)))), Nat.ne_of_gt (l9 _ (.tail _ (.head _))), Nat.ne_of_gt (l9 _ (.head _))⟩
      · exact ⟨hIo q hq, hDo q (.tail _ hq), hCo q (.tail _ (.tail _ hq))⟩
    · rw [take_at hx, List.map_append]
      subst hTT
      exact lit_all2 hy (fun _ _ h => h.mono fun q hq => .tail _ hq) ⟨_, _, _, _, _, rfl, .head _⟩
  · rintro D C1 h tk ys nx oC ⟨Ad, rfl, hAd, hy⟩ hCo hDo hnD F7 N7
    clear F N
    rw [hvl, List.take_length] at hy
    walk1
    rename_i h8 F8 N8
    refine ⟨_, _, _, _, rfl, F8, N8, fun q hq => hCo q hq, fun h9 F9 N9 => ?_⟩
    clear F8 N8 K
    subst hNX
    have hR2 := hR.ext (hAd.cons (o := lst ys) hnD)
    have hcv : ListIn ColIn ((D, lst ys) :: Ad ++ R) (.ref D) ((numsL ns).map colOf) := ⟨D, ys, _, rfl, .head _, hy.imp fun _ _ h => h.mono fun q hq => .tail _ (List.mem_append_left _ hq)⟩
    replace N9 := news_in (add := (D, lst ys) :: Ad) N9
    have hRR : ∀ q ∈ R, q ∈ (D, lst ys) :: Ad ++ R := fun q hq => List.mem_append_right _ hq
    replace hK := hK.mono hRR
    replace hJ := hJ.mono hRR
    clear hn1 hn2 hR hRX hoX hCo hDo hnD hAd hy mN hRR
    generalize (D, lst ys) :: Ad ++ R = R2 at hR2 hcv N9 hK hJ
    exact H w p loose mean mg mb dp un gd outer A₀ base g L fa cd _ _ _ B X T C hL hd hu F9 N9 ⟨_, _, _, _, _, _, _, _, _, _, lk, _, _, rfl, hR2, d1, d2, d3, d4, d5, d6, d7, mM, rfl, hcv, hK, hJ⟩
end
section
set_option maxHeartbeats 1000000 in
theorem segC {ns : List Int} (H : Seg 8 (StD ns)) : Seg 7 (StC ns) := by
  rintro w p loose mean mg mb dp un gd outer A₀ base g L fa cd s m nx B X T C hL hd hu F N ⟨o1, o2, o3, o4, o5, o6, o7, R, tw, tm, lk, jv, cv, rfl, hR, d1, d2, d3, d4, d5, d6, d7, mM, mC, ⟨cl, cvs, cn, rfl, hc1, hc2⟩, hK, hJ⟩
  show wpAny _ _ (execs (lawRec.body.drop 7) _) _ _ _
  dsimp only [lawRec, recOf, List.drop]
  have hnl := numsL_len ns
  have hvl : cvs.length = (numsL ns).length := by rw [hc2.length, List.length_map]
  k_steps
  all_goals (try dsimp only)
  refine wpAny_Assign_Name ?_
  refine LC_eval (by with_unfolding_all rfl) (by rfl) (by decide) ?_
  k_steps
  all_goals (try dsimp only)
  generalize hNX : (cells7 L o1 o2 o3 o4 o5 o6 o7 ++ (88, tabObj #[]) :: R : Ledger) = NX at N
  have hRX : ∀ q ∈ R, q ∈ NX := fun q hq => by rw [← hNX]; exact in_R hq
  have hoX : (L + 1 + 1 + 1 + 1 + 1 + 1 + 1, o7) ∈ NX := by rw [← hNX]; exact List.mem_append_left _ (.head _)
  refine LC_Z (l := cl) (vs := cvs) rfl F N (hRX _ hc1) ?_ ?_ (by rw [sizeLine_eq]; omega) (by decide) (fun i ys nx => ∃ Ad, nx = Ad ++ NX ∧ Above Ad NX ∧ All2 (TotIn w Ad) ys ((entsL ns).take i)) ?_ ?_ ⟨[], rfl, Above.nil, .nil⟩ ?_ ?_
  · have e : (lettersN (numsL ns).length).all (fun c => decide (c < 128)) = true := by
      rw [List.all_eq_true]
      intro c hc
      obtain ⟨i, hi, rfl⟩ := List.mem_map.mp hc
      have := List.mem_range.mp hi
      exact decide_eq_true (by omega)
    show (lettersN (numsL ns).length).toArray.all _ = true
    rw [List.all_toArray]
    exact e
  · simp [hvl]
  · rintro i ys nx ⟨Ad, rfl, _⟩
    exact List.mem_append_right _ (hRX _ hc1)
  · rintro i ys nx ⟨Ad, rfl, _, hy⟩
    rw [hy.length]
    exact List.length_take_le _ _
  · rintro i v c u T1 wr ys nx h tk its C1 D oC m₂ hv hc hT ⟨Ad, rfl, hAd, hy⟩ hn hCo hDo hcov hwr hnD hnC F7 N7
    obtain ⟨⟨cx, cy, cz⟩, hcol, ca, t0, t1, t2, cn2, rfl, hca⟩ := hc2.get hv
    dsimp only at hca
    clear F N
    refine tup_LD rfl F7 N7 hT rfl rfl fun h8 F8 N8 => ?_
    clear F7 N7
    have hcm : (ca, tupO [.int cx t0, .int cy t1, .int cz t2] cn2) ∈ (C1, oC) :: (D, lst ys) :: (its ++ (Ad ++ NX)) := .tail _ (.tail _ (List.mem_append_right _ (List.mem_append_right _ (hRX _ hca))))
    refine assignInOrder_cons ?_
    dsimp only
    refine tup_LC rfl F8 N8 hcm rfl rfl fun h9 F9 N9 => ?_
    clear F8 N8
    refine assignInOrder_cons (wpAny_assign_Name (store_LC F9 N9 hn hCo fun h10 oC10 F10 N10 hn10 => ?_))
    clear F9 N9
    refine assignInOrder_cons (wpAny_assign_Name (store_LC F10 N10 hn10 hCo fun h11 oC11 F11 N11 hn11 => ?_))
    clear F10 N10 hn10
    refine assignInOrder_cons (wpAny_assign_Name (store_LC F11 N11 hn11 hCo fun h12 oC12 F12 N12 hn12 => ?_))
    clear F11 N11 hn11
    refine assignInOrder_nil ?_
    refine assignInOrder_cons (wpAny_assign_Name (store_LC F12 N12 hn12 hCo fun h13 oC13 F13 N13 hn13 => ?_))
    clear F12 N12 hn12
    refine assignInOrder_nil ?_
    refine wpAny_tests_nil ?_
    refine ite_go ?_
    replace N13 : News g L h13 ((C1, oC13) :: (D, lst ys) :: (its ++ (Ad ++ NX))) := N13
    have uC : (C1, oC13) ∈ (C1, oC13) :: (D, lst ys) :: (its ++ (Ad ++ NX)) := .head _
    generalize hN4 : ((C1, oC13) :: (D, lst ys) :: (its ++ (Ad ++ NX)) : Ledger) = NX4 at N13 uC
    generalize hm8 : (fun y => if y = Str.ofString "letter" then some (Value.str _ u) else _) = m8 at hn13
    have mx : m8 (Str.ofString "x") = some (.int cx t0) := by rw [← hm8]; rfl
    have my : m8 (Str.ofString "y") = some (.int cy t1) := by rw [← hm8]; rfl
    have mz : m8 (Str.ofString "z") = some (.int cz t2) := by rw [← hm8]; rfl
    have ml : m8 (Str.ofString "letter") = some (.str ⟨#[c]⟩ u) := by rw [← hm8]; rfl
    clear hm8
    dsimp only
    k_steps
    all_goals (try dsimp only)
    refine kdn_eval (knd := PySem.strKind PP w) F13 N13 (Top.nolimit T) rfl rfl (by simp) (by decide) fun d h14 od F14 N14 l14 lo hod => ?_
    clear F13 N13
    have uC' : (C1, oC13) ∈ (d, od) :: NX4 := .tail _ uC
    refine pairTrees_cons_walk ?_
    k_steps
    all_goals (try dsimp only)
    rename_i h15 od' hod' _ T9 h16 F16 N16 l16
    subst hN4
    have g16 : ∀ q ∈ (C1, oC13) :: (D, lst ys) :: (its ++ (Ad ++ NX)), q.1 < T9 := of_allLt l16.2
    obtain ⟨TT, ⟨t1', nT, hTT⟩, N17⟩ : ∃ TT, (∃ t n, TT = tupO [.int cx t0, .int cy t1, .int cz t2, .int 1 t, .ref d] n) ∧ News g L h16 ((T9, TT) :: (d, od') :: (C1, oC13) :: (D, lst ys) :: (its ++ (Ad ++ NX))) := ⟨_, ⟨_, _, rfl⟩, N16⟩
    have hA2 : Above ((T9, TT) :: (d, od') :: Ad) NX := (hAd.cons fun q hq => l14 q (.tail _ (.tail _ (List.mem_append_right _ (List.mem_append_right _ hq))))).cons fun q hq => g16 q (.tail _ (.tail _ (List.mem_append_right _ (List.mem_append_right _ hq))))
    refine ⟨_, _, [(C1, oC13)], (T9, TT) :: (d, od') :: (Ad ++ NX), rfl, F16, News.sub N17 fun q hq => ?_, fun q hq => ?_, ⟨_, _, rfl, hn13⟩, _, rfl, hA2, ?_⟩
    · rcases List.mem_cons.mp hq with rfl | hq
      · exact .tail _ (.tail _ (.head _))
      rcases List.mem_cons.mp hq with rfl | hq
      · exact .tail _ (.tail _ (.tail _ (.head _)))
      rcases List.mem_append.mp hq with hq | hq
      · exact .tail _ (.tail _ (.tail _ (.tail _ (List.mem_append_left _ hq))))
      rcases List.mem_cons.mp hq with rfl | hq
      · exact .head _
      rcases List.mem_cons.mp hq with rfl | hq
      · exact .tail _ (.head _)
      · exact .tail _ (.tail _ (.tail _ (.tail _ (List.mem_append_right _ hq))))
    · rcases List.mem_cons.mp hq with rfl | hq
      · refine ⟨fun hb => ?_, Nat.ne_of_gt (g16 _ (.tail _ (.head _))), fun hb => ?_⟩
        · obtain ⟨o, ho⟩ := hcov _ hb
          exact Nat.lt_irrefl _ (g16 _ (.tail _ (.tail _ (List.mem_append_left _ ho))))
        · exact Nat.ne_of_gt (g16 _ (.head _)) (List.mem_singleton.mp hb)
      rcases List.mem_cons.mp hq with rfl | hq
      · refine ⟨fun hb => ?_, Nat.ne_of_gt (l14 _ (.tail _ (.head _))), fun hb => ?_⟩
        · obtain ⟨o, ho⟩ := hcov _ hb
          exact Nat.lt_irrefl _ (l14 _ (.tail _ (.tail _ (List.mem_append_left _ ho))))
        · exact Nat.ne_of_gt (l14 _ (.head _)) (List.mem_singleton.mp hb)
      · exact ⟨hwr q hq, hDo q (List.mem_append_right _ hq), fun hb => hCo q (.tail _ (List.mem_append_right _ hq)) (List.mem_singleton.mp hb)⟩
    · have hen : (entsL ns)[i]? = some (entOf (cx, cy, cz) c) := by
        have hc' : (lettersN (numsL ns).length)[i]? = some c := by simpa using hc
        unfold entsL
        rw [List.getElem?_zipWith, hcol, hc']
      rw [take_at hen]
      refine (hy.imp fun _ _ h => h.mono fun q hq => .tail _ (.tail _ hq)).append (.cons ?_ .nil)
      subst hTT
      exact ⟨T9, d, _, _, _, _, _, rfl, .head _, od', _, .tail _ (.head _), lo, hod', rfl, fun kv hkv => by rw [List.mem_singleton.mp hkv]; exact ⟨_, rfl⟩⟩
  · rintro D h tk ys nx ⟨Ad, rfl, hAd, hy⟩ hDo hnD F7 N7
    clear F N
    have hel : (entsL ns).length = cvs.length := by unfold entsL; simp [hvl]
    rw [← hel, List.take_length] at hy
    subst hNX
    have hR2 := hR.ext (hAd.cons (o := lst ys) hnD)
    have hev : TotsIn w ((D, lst ys) :: Ad ++ R) (.ref D) (entsL ns) := ⟨D, ys, _, rfl, .head _, hy.imp fun _ _ h => h.mono fun q hq => .tail _ (List.mem_append_left _ hq)⟩
    replace N7 := news_in (add := (D, lst ys) :: Ad) N7
    have hRR : ∀ q ∈ R, q ∈ (D, lst ys) :: Ad ++ R := fun q hq => List.mem_append_right _ hq
    refine put_entries F7 N7 d4 (hR2.offC hL) fun h8 o4' F8 N8 d4' => ?_
    exact H w p loose mean mg mb dp un gd outer A₀ base g L fa cd _ _ _ B X T C hL hd hu F8 N8 ⟨_, _, _, _, _, _, _, _, _, _, lk, _, _, _, rfl, hR2, d1, d2, d3, d4', d5, d6, d7, mM, mC, ⟨cl, cvs, cn, rfl, hRR _ hc1, hc2.imp fun _ _ h => h.mono hRR⟩, hK.mono hRR, hJ.mono hRR, hev⟩
end
section
set_option maxHeartbeats 1000000 in
theorem segD {ns : List Int} (H : Seg 10 (StE ns)) : Seg 8 (StD ns) := by
  rintro w p loose mean mg mb dp un gd outer A₀ base g L fa cd s m nx B X T C hL hd hu F N ⟨o1, o2, o3, o4, o5, o6, o7, R, tw, tm, lk, jv, cv, ev, rfl, hR, d1, d2, d3, d4, d5, d6, d7, mM, mC, hC, hK, hJ, hE⟩
  show wpAny _ _ (execs (lawRec.body.drop 8) _) _ _ _
  dsimp only [lawRec, recOf, List.drop]
  have hnl := numsL_len ns
  have hel := entsL_len ns
  have hfl : ((entsL ns).flatMap (·.ls)).length ≤ 500 := by rw [entsL_flat]; simp; exact le500 (numsL_len ns)
  k_steps
  all_goals (try dsimp only)
  refine Con.use (law_sums_con (es := entsL ns) (hE.mono fun q hq => in_R hq) (entsL_nodup ns) hfl (by rw [entsL_len]; exact le500 (numsL_len ns))) B F X N T (dpL hd (by decide)) (dpL hu (by decide)) ?_
  rintro sv Ad h1 tk1 F1 N1 U hS
  clear F N
  have hR2 := hR.ext U
  replace N1 := news_in N1
  refine put_sums F1 N1 d5 (hR2.offC hL) fun h2 o5' F2 N2 d5' => ?_
  clear F1 N1 d5
  have hRR : ∀ q ∈ R, q ∈ Ad ++ R := fun q hq => List.mem_append_right _ hq
  replace hS := hS.mono (b := Ad ++ R) fun q hq => List.mem_append_left _ hq
  replace hK := hK.mono hRR
  replace hJ := hJ.mono hRR
  replace hE := hE.mono hRR
  replace hC := hC.mono (fun _ _ h => ColIn.mono h hRR) hRR
  clear U hRR hR
  generalize Ad ++ R = R2 at *
  k_steps
  all_goals (try dsimp only)
  refine wpAny_Assign_Name ?_
  refine LC_eval (by with_unfolding_all rfl) (by rfl) (by decide) ?_
  k_steps
  all_goals (try dsimp only)
  rename_i h3 tk3 t3 u3 v3 hr F3 N3 hk3
  generalize hNX : (cells7 L o1 o2 o3 o4 o5' o6 o7 ++ (88, tabObj #[]) :: R2 : Ledger) = NX at N3
  have hRX : ∀ q ∈ R2, q ∈ NX := fun q hq => by rw [← hNX]; exact in_R hq
  have q5 : (L + 1 + 1 + 1 + 1 + 1, o5') ∈ NX := by rw [← hNX]; exact .tail _ (.tail _ (.head _))
  have q3 : (L + 1 + 1 + 1, o3) ∈ NX := by rw [← hNX]; exact .tail _ (.tail _ (.tail _ (.tail _ (.head _))))
  clear hk3
  obtain ⟨sl, svs, sn, rfl, hs1, hs2⟩ := hS
  have hsl : svs.length = (numsL ns).length + 1 := by rw [hs2.length]; simp [sumsL, hel]
  refine iter_range (n := (numsL ns).length) rfl F3 N3 hr (small_n (ten7 (numsL_len ns))) size_n (size7 (numsL_len ns)) fun I fp P Md St gg K hPi => ?_
  refine LC_N (K _ _) (by decide) (fun i ys => All2 (NatV []) ys (risesL (entsL ns) (keysL ns) i)) ?_ ?_ .nil ?_ ?_
  · rintro p hp
    cases hp
  · rintro i ys hy
    rw [hy.length, risesL]
    exact Nat.le_trans (List.length_filter_le _ _) (by simp)
  · rintro i v ys h1' h8 tk C1 oC8 m8 NX4 hi hP hy hn8 mk uC u1 F8 N8
    obtain ⟨tx, hv⟩ := hPi i v _ hP
    rw [Int.zero_add] at hv
    subst hv
    clear F3 N3
    refine wpAny_tests_one ?_
    have u5 := u1 _ q5
    have u3 := u1 _ q3
    have hJ4 := hJ.mono fun q hq => u1 q (hRX q hq)
    have hJ5 := hJ4
    obtain ⟨j', dj, lk', hss, tks, rfl, j1, j2, j3⟩ := hJ5
    have hsi : (sumsL (entsL ns))[i + 1]? = some (tot ((entsL ns).take (i + 1))) := by
      rw [sumsL, List.getElem?_map, List.getElem?_range (Nat.succ_lt_succ (hel ▸ hi))]; rfl
    have hs0 : (sumsL (entsL ns))[0]? = some zeroT := by
      rw [sumsL, List.getElem?_map, List.getElem?_range (Nat.succ_pos _), Option.map_some, List.take_zero]; rfl
    obtain ⟨xi, hxi, hTi⟩ := hs2.get' hsi
    obtain ⟨x0, hx0, hT0⟩ := hs2.get' hs0
    have hs14 := u1 _ (hRX _ hs1)
    dsimp only
    k_steps
    all_goals (try dsimp only)
    refine item_at N8 hs14 nn1 (fit71 (numsL_len ns) hi) (x := xi) (by rw [tn1]; exact hxi) ?_
    k_steps
    all_goals (try dsimp only)
    refine item_at N8 hs14 (by decide) (by decide) (x := x0) (by simpa using hx0) ?_
    k_steps
    all_goals (try dsimp only)
    refine Con.use (compare_con hJ4 (keysL_ok ns) (hTi.mono fun q hq => u1 q (hRX q hq)) (hT0.mono fun q hq => u1 q (hRX q hq))) B F8 X N8 T (dpL hd (by decide)) (dpL hu (by decide)) ?_
    rintro rc add2 h12 tk12 F12 N12 U12 ⟨tc, rfl⟩
    clear F8
    replace N12 : News g L h12 NX4 := News.sub N12 fun q hq => List.mem_append_right _ hq
    k_steps
    all_goals (try dsimp only)
    · rename_i q
      exact ⟨_, _, rfl, by assumption, N12, by rw [risesL_yes q]; exact hy.append (.cons ⟨_, rfl⟩ .nil)⟩
    · rename_i q
      exact ⟨_, _, rfl, by assumption, N12, by rw [risesL_no q]; exact hy⟩
  · rintro D h tk ys hy hDo hnD F7 N7
    clear F3 N3
    subst hNX
    have hR3 : OffR L ((D, lst ys) :: R2) := hR2.cons (hnD _ (.head _))
    replace N7 := news_in (add := [(D, lst ys)]) N7
    have hRR : ∀ q ∈ R2, q ∈ (D, lst ys) :: R2 := fun q hq => .tail _ hq
    refine put_rises F7 N7 d6 (hR3.offC hL) fun h8 o6' F8 N8 d6' => ?_
    exact H w p loose mean mg mb dp un gd outer A₀ base g L fa cd _ _ _ B X T C hL hd hu F8 N8 ⟨_, _, _, _, _, _, _, _, _, _, lk, _, _, _, _, _, rfl, hR3, d1, d2, d3, d4, d5', d6', d7, mM, mC, hC.mono (fun _ _ h => ColIn.mono h hRR) hRR, hK.mono hRR, hJ.mono hRR, hE.mono hRR,
      ⟨sl, svs, sn, rfl, hRR _ hs1, hs2.imp fun _ _ h => h.mono hRR⟩, ⟨D, ys, _, rfl, .head _, hy⟩⟩
end
local macro_rules | `(tactic| walk_at "compareOp NotIn int ref") => `(tactic| refine halt ?_)
section
set_option maxHeartbeats 1000000 in
theorem segE {ns : List Int} (H : Seg 11 (StF ns)) : Seg 10 (StE ns) := by
  rintro w p loose mean mg mb dp un gd outer A₀ base g L fa cd s m nx B X T C hL hd hu F N ⟨o1, o2, o3, o4, o5, o6, o7, R, tw, tm, lk, jv, cv, ev, sv, rv, rfl, hR, d1, d2, d3, d4, d5, d6, d7, mM, mC, hC, hK, hJ, hE, hS, ⟨rl, rvs, rn, rfl, hr1, hr2⟩⟩
  show wpAny _ _ (execs (lawRec.body.drop 10) _) _ _ _
  dsimp only [lawRec, recOf, List.drop]
  have hnl := numsL_len ns
  have hrl : (risesN ns).length ≤ (numsL ns).length := Nat.le_trans (List.length_filter_le _ _) (by simp)
  have hrv : rvs.length = (risesN ns).length := hr2.length
  k_steps
  refine krv_lit (its := rvs.toArray) (zs := rvs.reverse) F N (isList_at N (in_R hr1)) (.int _ _) rfl ?_ (by with_unfolding_all rfl) (by intro _; with_unfolding_all rfl) (by simp only [List.size_toArray, sizeLine_eq]; omega)
  intro D1 h1 F1 N1 l1
  clear F N
  k_steps
  all_goals (try dsimp only)
  refine LC_eval (by with_unfolding_all rfl) (by rfl) (by decide) ?_
  k_steps
  all_goals (try dsimp only)
  rename_i h3 tk3 t3 u3 v3 hr F3 N3 hk3
  replace N3 := news_in (add := [(D1, listOf rvs.reverse.toArray 0)]) N3
  have hR2 : OffR L ((D1, listOf rvs.reverse.toArray 0) :: R) := hR.cons (l1 _ mem_cellsIn)
  replace N3 : News g L h3 (cells7 L o1 o2 o3 o4 o5 o6 o7 ++ (88, tabObj #[]) :: ((D1, listOf rvs.reverse.toArray 0) :: R)) := N3
  generalize hNX : (cells7 L o1 o2 o3 o4 o5 o6 o7 ++ (88, tabObj #[]) :: ((D1, listOf rvs.reverse.toArray 0) :: R) : Ledger) = NX at N3
  have hRX : ∀ q ∈ R, q ∈ NX := fun q hq => by rw [← hNX]; exact in_R (.tail _ hq)
  have q6 : (L + 1 + 1 + 1 + 1 + 1 + 1, o6) ∈ NX := by rw [← hNX]; exact .tail _ (.head _)
  clear hk3 l1
  refine iter_range (n := (numsL ns).length) rfl F3 N3 hr (small_n (ten7 (numsL_len ns))) size_n (size7 (numsL_len ns)) fun I fp P Md St gg K hPi => ?_
  refine LC_N (K _ _) (by decide) (fun i ys => All2 (NatV []) ys ((List.range i).filter fun k => !(risesN ns).contains k)) ?_ ?_ .nil ?_ ?_
  · rintro p hp
    cases hp
  · rintro i ys hy
    rw [hy.length]
    exact Nat.le_trans (List.length_filter_le _ _) (by simp)
  · rintro i v ys h1' h8 tk C1 oC8 m8 NX4 hi hP hy hn8 mk uC u1 F8 N8
    obtain ⟨tx, hv⟩ := hPi i v _ hP
    rw [Int.zero_add] at hv
    subst hv
    clear F3 N3
    refine wpAny_tests_one ?_
    have u6 := u1 _ q6
    dsimp only
    k_steps
    all_goals (try dsimp only)
    refine notin_nats N8 (u1 _ (hRX _ hr1)) hr2 ?_
    k_steps
    all_goals (try dsimp only)
    · rename_i q
      exact ⟨_, _, rfl, F8, N8, by rw [filt_no (p := fun k => !(risesN ns).contains k) (by show (!(risesN ns).contains i) = false; rw [q]; rfl)]; exact hy⟩
    · rename_i q
      exact ⟨_, _, rfl, F8, N8, by rw [filt_yes (p := fun k => !(risesN ns).contains k) (by show (!(risesN ns).contains i) = true; rw [q]; rfl)]; exact hy.append (.cons ⟨_, rfl⟩ .nil)⟩
  · rintro D h tk ys hy hDo hnD F7 N7
    clear F3 N3
    have hyl : ys.length ≤ 7 := by rw [hy.length]; exact Nat.le_trans (List.length_filter_le _ _) (by simp; omega)
    have hLD : @LT.lt Nat _ (L + 7) D := hnD _ (by rw [← hNX]; exact mem_cellsIn)
    refine kmk_add_lit (zs := rvs.reverse ++ ys) F7 N7 (isList_at N7 (.tail _ (by rw [← hNX]; exact in_R (.head _)))) (isList_at N7 (.head _)) rfl ?_ (by simp [sizeLine_eq]; omega)
    intro D2 h8 F8 N8 l8
    clear F7 N7
    subst hNX
    replace N8 := news_in (add := [(D2, listOf (rvs.reverse ++ ys).toArray 0), (D, lst ys)]) N8
    have hR3 : OffR L ((D2, listOf (rvs.reverse ++ ys).toArray 0) :: (D, lst ys) :: (D1, listOf rvs.reverse.toArray 0) :: R) := (hR2.cons hLD).cons (l8 _ (.tail _ mem_cellsIn))
    have hRR : ∀ q ∈ R, q ∈ (D2, listOf (rvs.reverse ++ ys).toArray 0) :: (D, lst ys) :: (D1, listOf rvs.reverse.toArray 0) :: R := fun q hq => .tail _ (.tail _ (.tail _ hq))
    have ho : ListIn NatV ((D2, listOf (rvs.reverse ++ ys).toArray 0) :: (D, lst ys) :: (D1, listOf rvs.reverse.toArray 0) :: R) (.ref D2) (orderN ns) := ⟨D2, _, _, rfl, .head _, hr2.reverse.append hy⟩
    replace N8 : News g L h8 (cells7 L o1 o2 o3 o4 o5 o6 o7 ++ (88, tabObj #[]) :: ((D2, listOf (rvs.reverse ++ ys).toArray 0) :: (D, lst ys) :: (D1, listOf rvs.reverse.toArray 0) :: R)) := N8
    generalize (D2, listOf (rvs.reverse ++ ys).toArray 0) :: (D, lst ys) :: (D1, listOf rvs.reverse.toArray 0) :: R = R3 at N8 hR3 hRR ho
    walk1
    rename_i h9 F9 N9
    exact H w p loose mean mg mb dp un gd outer A₀ base g L fa cd _ _ _ B X T C hL hd hu F9 N9 ⟨_, _, _, _, _, _, _, _, _, _, lk, _, _, _, _, _, _, rfl, hR3, d1, d2, d3, d4, d5, d6, d7, mM, mC, rfl, hC.mono (fun _ _ h => ColIn.mono h hRR) hRR, hK.mono hRR, hJ.mono hRR, hE.mono hRR, hS.mono hRR, ⟨rl, rvs, rn, rfl, hRR _ hr1, hr2⟩, ho⟩
end
section
set_option maxHeartbeats 1000000 in
theorem segF {ns : List Int} (P : PureTop ns) (H : Seg 13 (StG ns)) : Seg 11 (StF ns) := by
  rintro w p loose mean mg mb dp un gd outer A₀ base g L fa cd s m nx B X T C hL hd hu F N ⟨o1, o2, o3, o4, o5, o6, o7, R, tw, tm, lk, jv, cv, ev, sv, rv, ov, rfl, hR, d1, d2, d3, d4, d5, d6, d7, mM, mC, mO, hC, hK, hJ, hE, hS, hr, ⟨ol, ovs, on, rfl, ho1, ho2⟩⟩
  show wpAny _ _ (execs (lawRec.body.drop 11) _) _ _ _
  dsimp only [lawRec, recOf, List.drop]
  have hnl := numsL_len ns
  have hol := orderN_len ns
  have hel := entsL_len ns
  have hov := ho2.length
  k_steps
  all_goals (try dsimp only)
  refine LC_eval (by with_unfolding_all rfl) (by rfl) (by decide) ?_
  k_steps
  all_goals (try dsimp only)
  generalize hNX : (cells7 L o1 o2 o3 o4 o5 o6 o7 ++ (88, tabObj #[]) :: R : Ledger) = NX at N
  have hRX : ∀ q ∈ R, q ∈ NX := fun q hq => by rw [← hNX]; exact in_R hq
  have q4 : (L + 1 + 1 + 1 + 1, o4) ∈ NX := by rw [← hNX]; exact .tail _ (.tail _ (.tail _ (.head _)))
  obtain ⟨el, evs, en, rfl, he1, he2⟩ := hE
  refine iter_list rfl F N (hRX _ ho1) (by rw [hov, orderN_len]; exact size7 (numsL_len ns)) fun I fp P1 Md St gg K hPi => ?_
  refine LC_N (K _) (by decide) (fun i ys => All2 (TotIn w R) ys (((orderN ns).take i).map fun k => (entsL ns).getD k zeroT)) ?_ ?_ .nil ?_ ?_
  · rintro p hp
    rw [List.mem_singleton.mp hp]
    exact hRX _ ho1
  · rintro i ys hy
    rw [hy.length, List.length_map]
    exact List.length_take_le _ _
  · rintro i v ys h1' h8 tk C1 oC8 m8 NX4 hi hP hy hn8 mk uC u1 F8 N8
    obtain ⟨kk, hkk, tk3, rfl⟩ := ho2.get (hPi i v _ hP)
    clear F N
    refine wpAny_tests_nil ?_
    refine ite_go ?_
    have u4 := u1 _ q4
    have hkl := orderN_lt ns kk (List.mem_of_getElem? hkk)
    have hent : (entsL ns)[kk]? = some ((entsL ns).getD kk zeroT) := by simp [hel, hkl]
    obtain ⟨x, hx, hT⟩ := he2.get' hent
    dsimp only
    k_steps
    all_goals (try dsimp only)
    refine item_at N8 (u1 _ (hRX _ he1)) (Int.natCast_nonneg _) (fit7 (numsL_len ns) hkl) (x := x) (by rw [Int.toNat_natCast]; exact hx) ?_
    refine ⟨_, _, rfl, F8, N8, ?_⟩
    rw [take_at hkk, List.map_append]
    exact hy.append (.cons hT .nil)
  · rintro D h tk ys hy hDo hnD F7 N7
    clear F N
    rw [hov, List.take_length] at hy
    k_steps
    all_goals (try dsimp only)
    refine Con.use (law_sums_con (es := orderE ns) ⟨D, ys, _, rfl, .head _, hy.imp fun _ _ h => h.mono fun q hq => .tail _ (hRX q hq)⟩ (orderE_nodup ns) (by rw [orderE_flat]; simp; rw [orderN_len]; exact le500 (numsL_len ns)) (by rw [orderE_len]; exact le500 (numsL_len ns))) B F7 X N7 T (dpL hd (by decide)) (dpL hu (by decide)) ?_
    rintro uv Ad h10 tk10 F10 N10 U10 hU
    clear F7 N7
    subst hNX
    replace N10 : News g L h10 (Ad ++ (cells7 L o1 o2 o3 o4 o5 o6 o7 ++ (88, tabObj #[]) :: R)) := News.sub N10 fun q hq => (List.mem_append.mp hq).elim (List.mem_append_left _) fun h => List.mem_append_right _ (.tail _ h)
    replace U10 : Above Ad (cells7 L o1 o2 o3 o4 o5 o6 o7 ++ (88, tabObj #[]) :: R) := U10.mono fun q hq => .tail _ hq
    have hR2 := hR.ext U10
    have hRR : ∀ q ∈ R, q ∈ Ad ++ R := fun q hq => List.mem_append_right _ hq
    replace N10 := news_in N10
    replace hU := hU.mono (b := Ad ++ R) fun q hq => List.mem_append_left _ hq
    have hE := TotsIn.mono (a := R) (v := .ref el) (ts := entsL ns) ⟨el, evs, en, rfl, he1, he2⟩ hRR
    replace hK := hK.mono hRR
    replace hJ := hJ.mono hRR
    replace hC := coll_mono hC hRR
    replace hS := hS.mono hRR
    replace hr := natl_mono hr hRR
    have ho := natl_mono (a := R) (v := .ref ol) (xs := orderN ns) ⟨ol, ovs, on, rfl, ho1, ho2⟩ hRR
    clear he1 he2 ho1 ho2 hRX hnD hDo hRR U10 q4 K hy
    generalize Ad ++ R = R2 at *
    k_steps
    all_goals (try dsimp only)
    unfold Halt
    rename_i h11 tk11 F11 N11
    obtain ⟨W, b, hW, hb, hbn⟩ := P
    have hsz : (sumsL (orderE ns)).length ≤ 500 := by rw [sumsL, List.length_map, List.length_range, orderE_len]; exact Nat.le_trans (Nat.succ_le_succ (numsL_len ns).2) (by decide)
    have n88 := not88 (o1 := o1) (o2 := o2) (o3 := o3) (o4 := o4) (o5 := o5) (o6 := o6) (o7 := o7) hL hR2
    refine law_top_con (news := cells7 L o1 o2 o3 o4 o5 o6 o7 ++ R2) (hU.mono fun q hq => List.mem_append_right _ hq) (hJ.mono fun q hq => List.mem_append_right _ hq) (keysL_ok ns) hW hsz hb n88 _ _ _ _ _ _ _ _ _ _ _ _ _ _ _ _ _ B F11 X (News.sub N11 fun q hq => ?_) T C rfl (dpL hd (by decide)) (dpL hu (by decide)) ?_
    · rcases List.mem_cons.mp hq with rfl | hq
      · exact List.mem_append_right _ (.head _)
      · rcases List.mem_append.mp hq with hq | hq
        · exact List.mem_append_left _ hq
        · exact List.mem_append_right _ (.tail _ hq)
    rintro tv nx2 h12 tk12 F12 N12 ⟨⟨ps, hps⟩, hkeep, ⟨tt, htv⟩⟩
    rw [hbn] at htv
    subst htv
    replace N12 : News g L h12 (cells7 L o1 o2 o3 o4 o5 o6 o7 ++ (88, tabObj ps) :: R2) := News.sub N12 fun q hq => by
      rcases List.mem_append.mp hq with hq | hq
      · exact hkeep _ (List.mem_append_left _ hq)
      · rcases List.mem_cons.mp hq with rfl | hq
        · exact hps
        · exact hkeep _ (List.mem_append_right _ hq)
    clear F11 N11
    walk1
    rename_i h13 F13 N13
    exact H w p loose mean mg mb dp un gd outer A₀ base g L fa cd _ _ _ B X T C hL hd hu F13 N13 ⟨R2, o7, _, _, _, _, _, _, _, lk, tt, ⟨_, _, _, _, _, _, ps, _, _, rfl, hR2, d1, d2, d3, d4, d5, d6, mM, mC, mO, rfl, rfl, hC, hK, hJ, hE, hS, hr, ho, hU⟩, d7⟩
end
local macro_rules | `(tactic| walk_at "execs cons") => `(tactic| ((rename Mark => hM'); refine halt ?_))
section
set_option maxHeartbeats 1000000 in
theorem segG {ns : List Int} (P : PureBack ns) (H : Seg 14 (StG ns)) : Seg 13 (StG ns) := by
  rintro w p loose mean mg mb dp un gd outer A₀ base g L fa cd s m nx B X T C hL hd hu F N ⟨R, o7, cv, ov, uv, sv, ev, rv, jv, lk, tt, ⟨o1, o2, o3, o4, o5, o6, ps, tw, tm, rfl, hR, d1, d2, d3, d4, d5, d6, mM, mC, mO, mU, mT, hC, hK, hJ, hE, hS, ⟨rl, rvs, rn, rfl, hr1, hr2⟩, ho, hU⟩, d7⟩
  show wpAny _ _ (execs (lawRec.body.drop 13) _) _ _ _
  dsimp only [lawRec, recOf, List.drop]
  have hnl := numsL_len ns
  have hol := orderN_len ns
  have hel := entsL_len ns
  have hrl : (risesN ns).length ≤ (numsL ns).length := Nat.le_trans (List.length_filter_le _ _) (by simp)
  have hrv : rvs.length = (risesN ns).length := hr2.length
  k_steps
  all_goals (try dsimp only)
  refine len_atN N (in_R hr1) (by omega) hrv ?_
  k_steps
  all_goals (try dsimp only)
  · exact absurd rfl (by assumption)
  have nN : ∀ q ∈ R, q ∈ cells7 L o1 o2 o3 o4 o5 o6 o7 ++ (88, tabObj ps) :: R := fun q hq => in_R hq
  refine Con.use (law_back_con (es := entsL ns) (order := orderN ns) (ks := keysL ns) (hE.mono nN) (natl_mono ho nN) (hJ.mono nN) (keysL_ok ns) (by rw [hel]; exact orderN_lt ns) (orderE_nodup ns) (by rw [ents_order, orderE_flat]; simp; rw [orderN_len]; exact le500 (numsL_len ns)) (by rw [orderN_len]; exact le500 (numsL_len ns)) (by rw [entsL_len]; exact le500 (numsL_len ns))) B F X N T (dpL hd (by decide)) (dpL hu (by decide)) ?_
  rintro bv Ad h1 tk2 F1 N1 U hB
  rw [P] at hB
  obtain ⟨bl, bvs, bn, rfl, hb1, hb2⟩ := hB
  k_steps
  all_goals (try dsimp only)
  rename_i h2 tk3 t3 u3 v3 hrg F2 N2 hk2
  refine list_range_N (n := (numsL ns).length) rfl F2 N2 hrg (small_n (ten7 (numsL_len ns))) size_n (len24 (ten7 (numsL_len ns))) fun D2 k2 h3 tk4 vs F3 N3 l3 hvs => ?_
  clear F2 N2 hk2
  dsimp only
  k_steps
  all_goals (try dsimp only)
  have eqr : (List.range (numsL ns).length).map (fun (k : Nat) => (k : Int)) = (List.range (numsL ns).length).map fun (i : Nat) => 0 + (i : Int) * 1 := List.map_congr_left fun i _ => by omega
  refine ne_ints_same (isList_at N3 (.tail _ (List.mem_append_left _ hb1))) (nats_of hb2) (isList_at N3 (.head _)) (intsAre_of hvs) eqr (by show un + 64 < cLine; exact dpL hu (by decide)) ?_
  replace N3 : News g L h3 (cells7 L o1 o2 o3 o4 o5 o6 o7 ++ (88, tabObj ps) :: R) := News.sub N3 fun q hq => .tail _ (List.mem_append_right _ hq)
  have hM : Mark := trivial
  k_steps
  all_goals (try dsimp only)
  unfold Halt
  exact H w p loose mean mg mb dp un gd outer A₀ base g L fa cd _ _ _ B X T C hL hd hu F3 N3 ⟨R, o7, _, _, _, _, _, _, _, lk, tt, ⟨_, _, _, _, _, _, ps, _, _, rfl, hR, d1, d2, d3, d4, d5, d6, mM, mC, mO, mU, mT, hC, hK, hJ, hE, hS, ⟨rl, rvs, rn, rfl, hr1, hr2⟩, ho, hU⟩, d7⟩
end
section
set_option maxHeartbeats 1000000 in
theorem segH {ns : List Int} (H : Seg 15 (StH ns)) : Seg 14 (StG ns) := by
  rintro w p loose mean mg mb dp un gd outer A₀ base g L fa cd s m nx B X T C hL hd hu F N ⟨R, o7, cv, ov, uv, sv, ev, rv, jv, lk, tt, ⟨o1, o2, o3, o4, o5, o6, ps, tw, tm, rfl, hR, d1, d2, d3, d4, d5, d6, mM, mC, mO, mU, mT, hC, hK, hJ, hE, hS, hr, ⟨ol, ovs, on, rfl, ho1, ho2⟩, hU⟩, d7⟩
  show wpAny _ _ (execs (lawRec.body.drop 14) _) _ _ _
  dsimp only [lawRec, recOf, List.drop]
  have hnl := numsL_len ns
  have hol := orderN_len ns
  have hov : ovs.length = (orderN ns).length := ho2.length
  k_steps
  all_goals (try dsimp only)
  refine LC_eval (by with_unfolding_all rfl) (by rfl) (by decide) ?_
  k_steps
  all_goals (try dsimp only)
  generalize hNX : (cells7 L o1 o2 o3 o4 o5 o6 o7 ++ (88, tabObj ps) :: R : Ledger) = NX at N
  have hRX : ∀ q ∈ R, q ∈ NX := fun q hq => by rw [← hNX]; exact in_R hq
  have q1 : (L + 1, o1) ∈ NX := by rw [← hNX]; exact .tail _ (.tail _ (.tail _ (.tail _ (.tail _ (.tail _ (.head _))))))
  refine iter_list rfl F N (hRX _ ho1) (by rw [hov, orderN_len]; exact size7 (numsL_len ns)) fun I fp P1 Md St gg K hPi => ?_
  refine LC_N (K _) (by decide) (fun i ys => All2 (fun v k => ∃ t, v = .str (S [97 + k]) t) ys ((orderN ns).take i)) ?_ ?_ .nil ?_ ?_
  · rintro p hp
    rw [List.mem_singleton.mp hp]
    exact hRX _ ho1
  · rintro i ys hy
    rw [hy.length]
    exact List.length_take_le _ _
  · rintro i v ys h1' h8 tk C1 oC8 m8 NX4 hi hP hy hn8 mk uC u1 F8 N8
    obtain ⟨kk, hkk, tk3, rfl⟩ := ho2.get (hPi i v _ hP)
    clear F N
    refine wpAny_tests_nil ?_
    refine ite_go ?_
    have u4 := u1 _ q1
    have hkl := orderN_lt ns kk (List.mem_of_getElem? hkk)
    have lenw := len_S (lettersN (numsL ns).length)
    rw [List.length_map, List.length_range] at lenw
    dsimp only
    k_steps
    all_goals (try dsimp only)
    refine ⟨_, _, rfl, F8, N8, ?_⟩
    rw [take_at hkk]
    exact hy.append (.cons ⟨_, by rw [item_S (c := 97 + kk) (by rw [List.getElem?_map, List.getElem?_range hkl]; rfl)]⟩ .nil)
  · rintro D h tk ys hy hDo hnD F7 N7
    clear F N
    rw [hov, List.take_length] at hy
    k_steps
    all_goals (try dsimp only)
    have e0 : (Str.ofString "").length = 0 := by simp [Str.length]; rfl
    have ej : Txt.join (Str.ofString "") ((orderN ns).map fun k => S [97 + k]) = S (textN ns) := (beq_iff_eq.mp (PyProof.Rows.join_closes rfl)).trans (join_S _)
    refine join_listE (isList_at N7 (.head _)) (ys := (orderN ns).map fun k => S [97 + k]) (by simpa using strs_of hy) (by rw [sum_len_S, List.length_map, e0]; omega) ej fun tx k => ?_
    subst hNX
    replace N7 : News g L h (cells7 L o1 o2 o3 o4 o5 o6 o7 ++ (88, tabObj ps) :: R) := News.sub N7 fun q hq => .tail _ hq
    walk1
    rename_i h13 F13 N13
    exact H w p loose mean mg mb dp un gd outer A₀ base g L fa cd _ _ _ B X T C hL hd hu F13 N13 ⟨R, o7, _, _, _, _, _, _, _, lk, tt, tx, ⟨_, _, _, _, _, _, ps, _, _, rfl, hR, d1, d2, d3, d4, d5, d6, mM, mC, mO, mU, mT, hC, hK, hJ, hE, hS, hr, ⟨ol, ovs, on, rfl, ho1, ho2⟩, hU⟩, d7, rfl⟩
end
section
set_option maxHeartbeats 1000000 in
theorem segI {ns : List Int} (P : PureLev ns) (H : Seg 16 (StH ns)) : Seg 15 (StH ns) := by
  rintro w p loose mean mg mb dp un gd outer A₀ base g L fa cd s m nx B X T C hL hd hu F N ⟨R, o7, cv, ov, uv, sv, ev, rv, jv, lk, tt, tx, ⟨o1, o2, o3, o4, o5, o6, ps, tw, tm, rfl, hR, d1, d2, d3, d4, d5, d6, mM, mC, mO, mU, mT, hC, hK, hJ, hE, hS, hr, ho, hU⟩, d7, mX⟩
  show wpAny _ _ (execs (lawRec.body.drop 15) _) _ _ _
  dsimp only [lawRec, recOf, List.drop]
  have hnl := numsL_len ns
  have hol := orderN_len ns
  have hrl : (risesN ns).length ≤ (numsL ns).length := Nat.le_trans (List.length_filter_le _ _) (by simp)
  have lent : (S (textN ns)).length = (numsL ns).length := by rw [len_S, List.length_map, hol]
  k_steps
  all_goals (try dsimp only)
  refine LC_eval (by with_unfolding_all rfl) (by rfl) (by decide) ?_
  k_steps
  all_goals (try dsimp only)
  rename_i lw hw FW NW lW
  have htl : (risesN ns).length ≤ (textN ns).length := by rw [List.length_map, hol]; exact hrl
  have hlt : (textN ns).length = (numsL ns).length := by rw [List.length_map, hol]
  rw [to_S htl, rev_S, from_S htl] at NW
  have hmem : ∀ c ∈ textN ns, ∃ k, k < 7 ∧ c = 97 + k := fun c hc => by
    obtain ⟨k, hk, rfl⟩ := List.mem_map.mp hc
    exact ⟨k, by have := orderN_lt ns k hk; omega, rfl⟩
  have hw1 : KXs.Still (S (lettersN (numsL ns).length)) := still_letters fun c hc => by
    obtain ⟨k, hk, rfl⟩ := List.mem_map.mp hc
    exact ⟨k, by have := List.mem_range.mp hk; omega, rfl⟩
  have hA : KXs.Still (S ((textN ns).take (risesN ns).length).reverse) ∧ ((textN ns).take (risesN ns).length).reverse.length ≤ 10 := ⟨still_letters fun c hc => hmem c (List.mem_of_mem_take (List.mem_reverse.mp hc)), by rw [List.length_reverse, List.length_take]; omega⟩
  have hB : KXs.Still (S ((textN ns).drop (risesN ns).length)) ∧ ((textN ns).drop (risesN ns).length).length ≤ 10 := ⟨still_letters fun c hc => hmem c (List.mem_of_mem_drop hc), by rw [List.length_drop]; omega⟩
  obtain ⟨P1, P2⟩ := P
  generalize ((textN ns).take (risesN ns).length).reverse = pa at NW hA P1
  generalize (textN ns).drop (risesN ns).length = pb at NW hB P2
  obtain ⟨vs, hvs, hparts, NW⟩ : ∃ vs : List Value, vs.length = 2 ∧ All2 (fun v l => ∃ t, v = Value.str (S l) t) vs [pa, pb] ∧ News g L hw ((lw, listOf vs.toArray 0) :: (cells7 L o1 o2 o3 o4 o5 o6 o7 ++ (88, tabObj ps) :: R)) := ⟨_, rfl, .cons ⟨_, rfl⟩ (.cons ⟨_, rfl⟩ .nil), NW⟩
  have hpp : ∀ l ∈ [pa, pb], KXs.Still (S l) ∧ l.length ≤ 10 := by
    intro l hl
    rcases List.mem_cons.mp hl with rfl | hl
    · exact hA
    · rw [List.mem_singleton.mp hl]; exact hB
  generalize hNX : ((lw, listOf vs.toArray 0) :: (cells7 L o1 o2 o3 o4 o5 o6 o7 ++ (88, tabObj ps) :: R) : Ledger) = NX at NW
  have hl0 : (lw, listOf vs.toArray 0) ∈ NX := by rw [← hNX]; exact .head _
  have q1 : (L + 1, o1) ∈ NX := by rw [← hNX]; exact .tail _ (.tail _ (.tail _ (.tail _ (.tail _ (.tail _ (.tail _ (.head _)))))))
  refine iter_list rfl FW NW hl0 (by rw [hvs, sizeLine_eq]; decide) fun I fp Pq Md St gg K hPi => ?_
  refine LC_N (K _) (by decide) (fun i ys => All2 IntIn ys (([pa, pb].take i).map (levL (lettersN (numsL ns).length)))) ?_ ?_ .nil ?_ ?_
  · rintro p hp
    rw [List.mem_singleton.mp hp]
    exact hl0
  · rintro i ys hy
    rw [hy.length, List.length_map]
    exact List.length_take_le _ _
  · rintro i v ys h1' h8 tk C1 oC8 m8 NX4 hi hP hy hn8 mk uC u1 F8 N8
    obtain ⟨pl, hpl, tk3, rfl⟩ := hparts.get (hPi i v _ hP)
    have hpq := hpp pl (List.mem_of_getElem? hpl)
    clear FW NW
    refine wpAny_tests_nil ?_
    refine ite_go ?_
    have u4 := u1 _ q1
    dsimp only
    k_steps
    all_goals (try dsimp only)
    refine Con.use (lev_con (la := lettersN (numsL ns).length) (lb := pl) hw1 hpq.1 (by simp; exact ten7 (numsL_len ns)) hpq.2) B F8 X N8 T (dpL hd (by decide)) (dpL hu (by decide)) ?_
    rintro r add h9 tk9 F9 N9 U9 ⟨tr, rfl⟩
    refine ⟨_, _, rfl, F9, News.sub N9 fun q hq => List.mem_append_right _ hq, ?_⟩
    rw [take_at hpl, List.map_append]
    exact hy.append (.cons ⟨_, rfl⟩ .nil)
  · rintro D h tk ys hy hDo hnD F7 N7
    clear FW NW
    rw [hvs] at hy
    replace hy : All2 IntIn ys [levL (lettersN (numsL ns).length) pa, levL (lettersN (numsL ns).length) pb] := hy
    rw [P1, P2] at hy
    k_steps
    all_goals (try dsimp only)
    rename_i lz hz FZ NZ lZ
    refine ne_ints_same (isList_at NZ (.tail _ (.head _))) (intsAre_of hy) (isList_at NZ (.head _)) (.cons _ _ (.cons _ _ .nil)) rfl (by show un + 64 < cLine; exact dpL hu (by decide)) ?_
    subst hNX
    replace NZ : News g L hz (cells7 L o1 o2 o3 o4 o5 o6 o7 ++ (88, tabObj ps) :: R) := News.sub NZ fun q hq => .tail _ (.tail _ (.tail _ hq))
    have hM : Mark := trivial
    k_steps
    all_goals (try dsimp only)
    unfold Halt
    exact H w p loose mean mg mb dp un gd outer A₀ base g L fa cd _ _ _ B X T C hL hd hu FZ NZ ⟨R, o7, _, _, _, _, _, _, _, lk, tt, tx, ⟨_, _, _, _, _, _, ps, _, _, rfl, hR, d1, d2, d3, d4, d5, d6, mM, mC, mO, mU, mT, hC, hK, hJ, hE, hS, hr, ho, hU⟩, d7, mX⟩
end
local macro_rules | `(tactic| walk_at "compareOp Gt ref ref") => `(tactic| refine halt ?_)
section
set_option maxHeartbeats 1000000 in
theorem segJ {ns : List Int} (H : Seg 17 (StI ns (List.range (numsL ns).length))) : Seg 16 (StH ns) := by
  rintro w p loose mean mg mb dp un gd outer A₀ base g L fa cd s m nx B X T C hL hd hu F N ⟨R, o7, cv, ov, uv, sv, ev, rv, jv, lk, tt, tx, ⟨o1, o2, o3, o4, o5, o6, ps, tw, tm, rfl, hR, d1, d2, d3, d4, d5, d6, mM, mC, mO, mU, mT, hC, hK, hJ, hE, hS, hr, ho, hU⟩, d7, mX⟩
  show wpAny _ _ (execs (lawRec.body.drop 16) _) _ _ _
  dsimp only [lawRec, recOf, List.drop]
  have hnl := numsL_len ns
  have hcl := colsL_len ns
  k_steps
  all_goals (try dsimp only)
  rename_i h2 tk3 t3 u3 v3 hrg F2 N2 hk2
  refine list_range_N (n := (numsL ns).length) rfl F2 N2 hrg (small_n (ten7 (numsL_len ns))) size_n (len24 (ten7 (numsL_len ns))) fun D2 k2 h3 tk4 vs F3 N3 l3 hvs => ?_
  clear F2 N2 hk2
  dsimp only
  k_steps
  all_goals (try dsimp only)
  have up : ∀ q ∈ R, q ∈ (D2, listOf vs.toArray k2) :: (cells7 L o1 o2 o3 o4 o5 o6 o7 ++ (88, tabObj ps) :: R) := fun q hq => .tail _ (in_R hq)
  refine Con.use (law_plain_con (cols := colsL ns) (way := List.range (numsL ns).length) (ks := keysL ns) (coll_mono hC up) ⟨D2, vs, k2, rfl, .head _, range_nats hvs⟩ (hK.mono up) (keysL_ok ns) (keysL_sign ns) (fun k hk => by rw [hcl]; exact List.mem_range.mp hk) (by simp; exact le500 (numsL_len ns)) (by rw [colsL_len]; exact le500 (numsL_len ns)) (by rw [keysL_len]; decide)) B F3 X N3 T (dpL hd (by decide)) (dpL hu (by decide)) ?_
  rintro pv Ad h4 tk5 F4 N4 U hP
  clear F3 N3
  replace N4 : News g L h4 (Ad ++ (cells7 L o1 o2 o3 o4 o5 o6 o7 ++ (88, tabObj ps) :: R)) := News.sub N4 fun q hq => (List.mem_append.mp hq).elim (List.mem_append_left _) fun h => List.mem_append_right _ (.tail _ h)
  replace U : Above Ad (cells7 L o1 o2 o3 o4 o5 o6 o7 ++ (88, tabObj ps) :: R) := U.mono fun q hq => .tail _ hq
  have hR2 := hR.ext U
  have hRR : ∀ q ∈ R, q ∈ Ad ++ R := fun q hq => List.mem_append_right _ hq
  replace N4 := news_in N4
  refine put_plain F4 N4 d7 (hR2.offC hL) fun h5 o7' F5 N5 d7' => ?_
  exact H w p loose mean mg mb dp un gd outer A₀ base g L fa cd _ _ _ B X T C hL hd hu F5 N5 ⟨Ad ++ R, o7', _, _, _, _, _, _, _, lk, tt, pv, tx, ⟨_, _, _, _, _, _, ps, _, _, rfl, hR2, d1, d2, d3, d4, d5, d6, mM, mC, mO, mU, mT, coll_mono hC hRR, hK.mono hRR, hJ.mono hRR, hE.mono hRR, hS.mono hRR, natl_mono hr hRR, natl_mono ho hRR, hU.mono hRR⟩, d7', rows_mono hP fun q hq => List.mem_append_left _ hq, mX⟩
end
section
set_option maxHeartbeats 1000000 in
theorem segK {ns : List Int} (P : PureGt ns) (H : Seg 18 (StI ns (List.range (numsL ns).length))) : Seg 17 (StI ns (List.range (numsL ns).length)) := by
  rintro w p loose mean mg mb dp un gd outer A₀ base g L fa cd s m nx B X T C hL hd hu F N ⟨R, o7, cv, ov, uv, sv, ev, rv, jv, lk, tt, pv, tx, ⟨o1, o2, o3, o4, o5, o6, ps, tw, tm, rfl, hR, d1, d2, d3, d4, d5, d6, mM, mC, mO, mU, mT, hC, hK, hJ, hE, hS, ⟨rl, rvs, rn, rfl, hr1, hr2⟩, ho, hU⟩, d7, ⟨pl, pvs, pn, rfl, hp1, hp2⟩, mX⟩
  show wpAny _ _ (execs (lawRec.body.drop 17) _) _ _ _
  dsimp only [lawRec, recOf, List.drop]
  have hnl := numsL_len ns
  have hpl : pvs.length = (numsL ns).length + 1 := by rw [hp2.length]; simp [plainL]
  k_steps
  all_goals (try dsimp only)
  refine LC_eval (by with_unfolding_all rfl) (by rfl) (by decide) ?_
  k_steps
  all_goals (try dsimp only)
  rename_i h3 tk3 t3 u3 v3 hrg F3 N3 hk3
  generalize hNX : (cells7 L o1 o2 o3 o4 o5 o6 o7 ++ (88, tabObj ps) :: R : Ledger) = NX at N3
  have hRX : ∀ q ∈ R, q ∈ NX := fun q hq => by rw [← hNX]; exact in_R hq
  have q7 : (L + 1 + 1 + 1 + 1 + 1 + 1 + 1, o7) ∈ NX := by rw [← hNX]; exact mem_cellsIn
  clear hk3
  refine iter_range (n := (numsL ns).length) rfl F3 N3 hrg (small_n (ten7 (numsL_len ns))) size_n (size7 (numsL_len ns)) fun I fp P1 Md St gg K hPi => ?_
  refine LC_N (K _ _) (by decide) (fun i ys => All2 (NatV []) ys (risesL (entsL ns) (keysL ns) i)) ?_ ?_ .nil ?_ ?_
  · rintro p hp
    cases hp
  · rintro i ys hy
    rw [hy.length, risesL]
    exact Nat.le_trans (List.length_filter_le _ _) (by simp)
  · rintro i v ys h1' h8 tk C1 oC8 m8 NX4 hi hP hy hn8 mk uC u1 F8 N8
    obtain ⟨tx, hv⟩ := hPi i v _ hP
    rw [Int.zero_add] at hv
    subst hv
    refine wpAny_tests_one ?_
    have u7 := u1 _ q7
    have hpi : (plainL (colsL ns) (keysL ns) (List.range (numsL ns).length))[i + 1]? = some (pRow (colsL ns) (keysL ns) ((List.range (numsL ns).length).take (i + 1))) := by
      rw [plainL, List.getElem?_map, List.getElem?_range (by rw [List.length_range]; exact Nat.succ_lt_succ hi)]; rfl
    obtain ⟨xi, hxi, al, avs, an, rfl, ha1, ha2⟩ := hp2.get' hpi
    dsimp only
    k_steps
    all_goals (try dsimp only)
    refine item_at N8 (u1 _ (hRX _ hp1)) nn1 (fit71 (numsL_len ns) hi) (x := .ref al) (by rw [tn1]; exact hxi) ?_
    k_steps
    all_goals (try dsimp only)
    rename_i lz hz FZ NZ lZ
    refine gt_listsB NZ (.tail _ (u1 _ (hRX _ ha1))) (.head _) ha2 (.cons ⟨_, rfl⟩ (.cons ⟨_, rfl⟩ (.cons ⟨_, rfl⟩ .nil))) rfl (by show un < cLine; exact dpL (b := 0) hu (by decide)) (P i hi) ?_
    replace NZ : News g L hz NX4 := News.sub NZ fun q hq => .tail _ hq
    k_steps
    all_goals (try dsimp only)
    · rename_i q
      exact ⟨_, _, rfl, FZ, NZ, by rw [show risesL (entsL ns) (keysL ns) (i + 1) = risesL (entsL ns) (keysL ns) i ++ [i] from filt_yes q]; exact hy.append (.cons ⟨_, rfl⟩ .nil)⟩
    · rename_i q
      exact ⟨_, _, rfl, FZ, NZ, by rw [show risesL (entsL ns) (keysL ns) (i + 1) = risesL (entsL ns) (keysL ns) i from filt_no q]; exact hy⟩
  · rintro D h tk ys hy hDo hnD F7 N7
    clear F3 N3
    k_steps
    all_goals (try dsimp only)
    refine ne_ints_same (isList_at N7 (.tail _ (hRX _ hr1))) (nats_of hr2) (isList_at N7 (.head _)) (nats_of hy) rfl (by show un + 64 < cLine; exact dpL hu (by decide)) ?_
    subst hNX
    replace N7 : News g L h (cells7 L o1 o2 o3 o4 o5 o6 o7 ++ (88, tabObj ps) :: R) := News.sub N7 fun q hq => .tail _ hq
    have hM : Mark := trivial
    k_steps
    all_goals (try dsimp only)
    unfold Halt
    exact H w p loose mean mg mb dp un gd outer A₀ base g L fa cd _ _ _ B X T C hL hd hu F7 N7 ⟨R, o7, _, _, _, _, _, _, _, lk, tt, _, tx, ⟨_, _, _, _, _, _, ps, _, _, rfl, hR, d1, d2, d3, d4, d5, d6, mM, mC, mO, mU, mT, hC, hK, hJ, hE, hS, ⟨rl, rvs, rn, rfl, hr1, hr2⟩, ho, hU⟩, d7, ⟨pl, pvs, pn, rfl, hp1, hp2⟩, mX⟩
end
section
set_option maxHeartbeats 1000000 in
theorem segL {ns : List Int} (P : PureRows ns) (H : Seg 19 (StI ns (List.range (numsL ns).length))) : Seg 18 (StI ns (List.range (numsL ns).length)) := by
  rintro w p loose mean mg mb dp un gd outer A₀ base g L fa cd s m nx B X T C hL hd hu F N ⟨R, o7, cv, ov, uv, sv, ev, rv, jv, lk, tt, pv, tx, ⟨o1, o2, o3, o4, o5, o6, ps, tw, tm, rfl, hR, d1, d2, d3, d4, d5, d6, mM, mC, mO, mU, mT, hC, hK, hJ, hE, ⟨sl, svs, sn, rfl, hs1, hs2⟩, hr, ho, hU⟩, d7, ⟨pl, pvs, pn, rfl, hp1, hp2⟩, mX⟩
  show wpAny _ _ (execs (lawRec.body.drop 18) _) _ _ _
  dsimp only [lawRec, recOf, List.drop]
  have hnl := numsL_len ns
  have hel := entsL_len ns
  have hkl := keysL_len ns
  have hsl : svs.length = (numsL ns).length + 1 := by rw [hs2.length]; simp [sumsL, hel]
  obtain ⟨kvs, kn, hk1, hk2⟩ := hK
  have hkv := hk2.length
  k_steps
  all_goals (try dsimp only)
  refine LC_eval (by with_unfolding_all rfl) (by rfl) (by decide) ?_
  k_steps
  all_goals (try dsimp only)
  generalize hNX : (cells7 L o1 o2 o3 o4 o5 o6 o7 ++ (88, tabObj ps) :: R : Ledger) = NX at N
  have hRX : ∀ q ∈ R, q ∈ NX := fun q hq => by rw [← hNX]; exact in_R hq
  have q2 : (L + 1 + 1, o2) ∈ NX := by rw [← hNX]; exact .tail _ (.tail _ (.tail _ (.tail _ (.tail _ (.head _)))))
  refine iter_list rfl F N (hRX _ hs1) (by rw [hs2.length, sumsL, List.length_map, List.length_range, entsL_len]; exact size71 (numsL_len ns)) fun I fp P1 Md St gg K hPi => ?_
  refine LC_B (x := Str.ofString "total") (K _) (by rfl) (fun i ys nx => ∃ Ad, nx = Ad ++ NX ∧ Above Ad NX ∧ All2 (RowV Ad) ys (((sumsL (entsL ns)).take i).map (rowT (keysL ns)))) ?_ ?_ ⟨[], rfl, Above.nil, .nil⟩ ?_ ?_
  · rintro i ys nx ⟨Ad, rfl, _⟩ p hp
    rw [List.mem_singleton.mp hp]
    exact List.mem_append_right _ (hRX _ hs1)
  · rintro i ys nx ⟨Ad, rfl, _, hy⟩
    rw [hy.length, List.length_map]
    exact List.length_take_le _ _
  · rintro i v ys nx h tk oI C1 D oCn m₂ c o u hi hP ⟨Ad, rfl, hAd, hy⟩ hn hoc hcC hcD hCo hDo hco hIo hD hCn hc0 F7 N7
    obtain ⟨tv, htv, hT⟩ := hs2.get (hPi i v _ hP)
    obtain ⟨ta, td, t0, t1, t2, t3, tn, rfl, hta, _⟩ := hT
    clear F N
    refine wpAny_assign_Name (cell_LC F7 N7 hoc hcC (fun p hp => ?_) rfl (fun h' o' F' N' d => ?_))
    · rcases List.mem_cons.mp hp with rfl | hp
      · exact fun e => hcD e.symm
      · exact hco p hp
    clear F7 N7
    refine wpAny_tests_nil ?_
    refine ite_go ?_
    have u1 : ∀ p ∈ NX, p ∈ (C1, oCn) :: (c, o') :: (D, lst ys) :: (I, oI) :: (Ad ++ NX) := fun p hp => .tail _ (.tail _ (.tail _ (.tail _ (List.mem_append_right _ hp))))
    have uc : (c, o') ∈ (C1, oCn) :: (c, o') :: (D, lst ys) :: (I, oI) :: (Ad ++ NX) := .tail _ (.head _)
    generalize hNY : ((C1, oCn) :: (c, o') :: (D, lst ys) :: (I, oI) :: (Ad ++ NX) : Ledger) = NY at N' u1 uc
    have u2 := u1 _ q2
    refine LC_eval (by with_unfolding_all rfl) (by rfl) (by decide) ?_
    dsimp only
    k_steps
    all_goals (try dsimp only)
    refine iter_list rfl F' N' (u1 _ (hRX _ hk1)) (by rw [hk2.length, keysL_len, sizeLine_eq]; decide) fun I2 fp2 P2 Md2 St2 gg2 K2 hPi2 => ?_
    refine LC_A (K2 _) (by decide) (fun i2 ys nx => nx = NY ∧ All2 (IntV []) ys (((keysL ns).take i2).map fun p => tv.at p.1 * p.2)) ?_ ?_ ⟨rfl, .nil⟩ ?_ ?_
    · rintro i2 ys nx ⟨rfl, _⟩ p hp
      rw [List.mem_singleton.mp hp]
      exact u1 _ (hRX _ hk1)
    · rintro i2 ys nx ⟨rfl, hy⟩
      rw [hy.length, List.length_map]
      exact List.length_take_le _ _
    · rintro i2 v2 ys2 nx h2 tk2 oI2 C2 D2 oC2 m2 hi2 hP2 ⟨rfl, hy2⟩ hn2 hCo2 hDo2 hIo2 hnD2 hnC2 F2 N2
      obtain ⟨⟨pc, pz⟩, hps, tka, tb0, tb1, tkn, rfl, htka⟩ := hk2.get (hPi2 i2 v2 _ hP2)
      have hpc := keysL_ok ns _ (List.mem_of_getElem? hps)
      have hsp := keysL_sign ns _ (List.mem_of_getElem? hps)
      dsimp only at htka hpc hsp
      refine tup_LC rfl F2 N2 (.tail _ (.tail _ (.tail _ (u1 _ (hRX _ htka))))) rfl rfl fun h3 F3 N3 => ?_
      clear F2 N2 F' N'
      refine assignInOrder_cons (wpAny_assign_Name (store_LC F3 N3 hn2 hCo2 fun h4 oC4 F4 N4 hn4 => ?_))
      clear F3 N3
      refine assignInOrder_cons (wpAny_assign_Name (store_LC F4 N4 hn4 hCo2 fun h5 oC5 F5 N5 hn5 => ?_))
      clear F4 N4 hn4
      refine assignInOrder_nil ?_
      refine wpAny_tests_nil ?_
      refine ite_go ?_
      dsimp only
      replace N5 : News g L h5 ((C2, oC5) :: (D2, lst ys2) :: (I2, oI2) :: nx) := N5
      have r1 : ∀ p ∈ nx, p ∈ (C2, oC5) :: (D2, lst ys2) :: (I2, oI2) :: nx := fun p hp => .tail _ (.tail _ (.tail _ hp))
      have rC : (C2, oC5) ∈ (C2, oC5) :: (D2, lst ys2) :: (I2, oI2) :: nx := .head _
      generalize hNX2 : ((C2, oC5) :: (D2, lst ys2) :: (I2, oI2) :: nx : Ledger) = NX2 at N5 r1 rC
      have rc := r1 _ uc
      generalize hm5 : (fun y => if y = Str.ofString "sign" then some (Value.int pz tb1) else _) = m5 at hn5
      have ms : m5 (Str.ofString "sign") = some (.int pz tb1) := by rw [← hm5]; rfl
      have mc : m5 (Str.ofString "c") = some (.int pc tb0) := by rw [← hm5]; rfl
      clear hm5
      k_steps
      all_goals (try dsimp only)
      obtain ⟨tx2, hx2⟩ := tot_at (t := tv) (t0 := t0) (t1 := t1) (t2 := t2) (t3 := t3) (dv := .ref td) hpc
      refine tupitem_at N5 (r1 _ (u1 _ (hRX _ hta))) (by omega) (by omega) hx2 ?_
      k_steps
      all_goals (try dsimp only)
      subst hNX2
      refine ⟨_, _, oC5, m5, nx, rfl, F5, N5, hn5, off3 hIo2 hDo2 hCo2, rfl, ?_⟩
      rw [take_at hps, List.map_append]
      exact hy2.append (.cons ⟨_, rfl⟩ .nil)
    · rintro D6 h11 tk11 ys11 nx11 ⟨rfl, hy11⟩ hn11 hl11 F11 N11
      clear F' N'
      rw [hkv, List.take_length] at hy11
      subst hNY
      refine ⟨o', _, d, h11, _, oCn, m₂, (D6, lst ys11) :: (Ad ++ NX), rfl, F11, News.sub N11 fun q hq => ?_, hn, fun q hq => ?_, (D6, lst ys11) :: Ad, rfl, hAd.cons fun q hq => hl11 q (u1 q hq), ?_⟩
      · exact mv5 q hq
      · simp only [List.mem_cons, List.not_mem_nil, or_false, not_or]
        rcases List.mem_cons.mp hq with rfl | hq
        · exact ⟨Nat.ne_of_gt (hl11 _ (.tail _ (.tail _ (.tail _ (.head _))))), Nat.ne_of_gt (hl11 _ (.tail _ (.tail _ (.head _)))), Nat.ne_of_gt (hl11 _ (.head _)), Nat.ne_of_gt (hl11 _ (.tail _ (.head _)))⟩
        · exact ⟨hIo q hq, hDo q (.tail _ hq), hCo q (.tail _ (.tail _ hq)), hco q (.tail _ hq)⟩
      · rw [take_at htv, List.map_append]
        exact lit_all2 hy (fun _ _ h => row_mono h fun q hq => .tail _ hq) ⟨D6, ys11, _, rfl, .head _, hy11⟩
  · rintro D7 h12 tk12 ys12 nx12 ⟨Ad, rfl, hAd, hy12⟩ hn12 hl12 F12 N12
    clear F N
    rw [hs2.length, List.take_length, P.1] at hy12
    have v1 : ∀ q ∈ NX, q ∈ (D7, lst ys12) :: (Ad ++ NX) := fun q hq => .tail _ (List.mem_append_right _ hq)
    have q7 : (L + 1 + 1 + 1 + 1 + 1 + 1 + 1, o7) ∈ (D7, lst ys12) :: (Ad ++ NX) := v1 _ (by rw [← hNX]; exact mem_cellsIn)
    have q5 : (L + 1 + 1 + 1 + 1 + 1, o5) ∈ (D7, lst ys12) :: (Ad ++ NX) := v1 _ (by rw [← hNX]; exact .tail _ (.tail _ (.head _)))
    have q1 : (L + 1, o1) ∈ (D7, lst ys12) :: (Ad ++ NX) := v1 _ (by rw [← hNX]; exact .tail _ (.tail _ (.tail _ (.tail _ (.tail _ (.tail _ (.head _)))))))
    k_steps
    all_goals (try dsimp only)
    refine ne_rows (a := Ad) (b := R) N12 (fun q hq => .tail _ (List.mem_append_left _ hq)) (fun q hq => v1 _ (hRX q hq)) (fun p hp q hq => Nat.ne_of_gt (hAd p hp q (hRX q hq))) (by show un + 1 < cLine; exact dpL hu (by decide)) (.head _) (v1 _ (hRX _ hp1)) hy12 hp2 ?_
    k_steps
    all_goals (try dsimp only)
    obtain ⟨xl, hxl, hTl⟩ := hs2.get' (sumsL_last (entsL ns))
    obtain ⟨la, ld, l0, l1, l2, l3, ln, rfl, hla, hle⟩ := hTl
    refine item_neg N12 (v1 _ (hRX _ hs1)) (by decide) (by omega) (by decide) (x := .ref la) (by rw [show ((-1 : Int) + (svs.length : Int)).toNat = (entsL ns).length by omega]; exact hxl) ?_
    k_steps
    all_goals (try dsimp only)
    refine tupitem_at N12 (v1 _ (hRX _ hla)) (by decide) (by decide) (x := .ref ld) rfl ?_
    k_steps
    all_goals (try dsimp only)
    obtain ⟨od, dkvs, hod, hsm, hdk, hdl, _⟩ := hle
    have hlet : dkvs.map (·.1) = (lettersN (numsL ns).length).map fun l => S [l] := by rw [hdl, tot_ls, entsL_flat]
    have hdn : dkvs.length = (numsL ns).length := by have := congrArg List.length hlet; simpa using this
    refine list_dict_N rfl F12 N12 (v1 _ (hRX _ hod)) hdk hsm (by omega) fun B1 c1 h13 tk13 bs1 F13 N13 l13 hb1 => ?_
    clear F12 N12
    rw [hlet] at hb1
    have q1' : (L + 1, o1) ∈ (B1, listOf bs1.toArray c1) :: (D7, lst ys12) :: (Ad ++ NX) := .tail _ q1
    k_steps
    all_goals (try dsimp only)
    refine list_str_N rfl F13 N13 (by rw [sizeLine_eq, len_S]; simp; omega) fun B2 c2 h14 tk14 bs2 F14 N14 l14 hb2 => ?_
    clear F13 N13
    replace hb2 : All2 StrV bs2 ((lettersN (numsL ns).length).map fun l => S [l]) := hb2
    k_steps
    all_goals (try dsimp only)
    refine ne_strs N14 (by show un < cLine; exact dpL (b := 0) hu (by decide)) (.tail _ (.head _)) (.head _) hb1 hb2 ?_
    subst hNX
    replace N14 : News g L h14 (cells7 L o1 o2 o3 o4 o5 o6 o7 ++ (88, tabObj ps) :: R) := News.sub N14 fun q hq => .tail _ (.tail _ (.tail _ (List.mem_append_right _ hq)))
    have hM : Mark := trivial
    k_steps
    all_goals (try dsimp only)
    unfold Halt
    exact H w p loose mean mg mb dp un gd outer A₀ base g L fa cd _ _ _ B X T C hL hd hu F14 N14 ⟨R, o7, _, _, _, _, _, _, _, lk, tt, _, tx, ⟨_, _, _, _, _, _, ps, _, _, rfl, hR, d1, d2, d3, d4, d5, d6, mM, mC, mO, mU, mT, hC, ⟨kvs, kn, hk1, hk2⟩, hJ, hE, ⟨sl, svs, sn, rfl, hs1, hs2⟩, hr, ho, hU⟩, d7, ⟨pl, pvs, pn, rfl, hp1, hp2⟩, mX⟩
end
section
set_option maxHeartbeats 1000000 in
theorem segM {ns : List Int} (H : Seg 20 (StI ns (orderN ns))) : Seg 19 (StI ns (List.range (numsL ns).length)) := by
  rintro w p loose mean mg mb dp un gd outer A₀ base g L fa cd s m nx B X T C hL hd hu F N ⟨R, o7, cv, ov, uv, sv, ev, rv, jv, lk, tt, pv, tx, ⟨o1, o2, o3, o4, o5, o6, ps, tw, tm, rfl, hR, d1, d2, d3, d4, d5, d6, mM, mC, mO, mU, mT, hC, hK, hJ, hE, hS, hr, ho, hU⟩, d7, hP0, mX⟩
  show wpAny _ _ (execs (lawRec.body.drop 19) _) _ _ _
  dsimp only [lawRec, recOf, List.drop]
  have hnl := numsL_len ns
  have hcl := colsL_len ns
  have hol := orderN_len ns
  k_steps
  all_goals (try dsimp only)
  have up : ∀ q ∈ R, q ∈ cells7 L o1 o2 o3 o4 o5 o6 o7 ++ (88, tabObj ps) :: R := fun q hq => in_R hq
  refine Con.use (law_plain_con (cols := colsL ns) (way := orderN ns) (ks := keysL ns) (coll_mono hC up) (natl_mono ho up) (hK.mono up) (keysL_ok ns) (keysL_sign ns) (fun k hk => by rw [hcl]; exact orderN_lt ns k hk) (by rw [orderN_len]; exact le500 (numsL_len ns)) (by rw [colsL_len]; exact le500 (numsL_len ns)) (by rw [keysL_len]; decide)) B F X N T (dpL hd (by decide)) (dpL hu (by decide)) ?_
  rintro pv2 Ad h4 tk5 F4 N4 U hP
  clear F N
  have hR2 := hR.ext U
  have hRR : ∀ q ∈ R, q ∈ Ad ++ R := fun q hq => List.mem_append_right _ hq
  replace N4 := news_in N4
  refine put_plain F4 N4 d7 (hR2.offC hL) fun h5 o7' F5 N5 d7' => ?_
  exact H w p loose mean mg mb dp un gd outer A₀ base g L fa cd _ _ _ B X T C hL hd hu F5 N5 ⟨Ad ++ R, o7', _, _, _, _, _, _, _, lk, tt, pv2, tx, ⟨_, _, _, _, _, _, ps, _, _, rfl, hR2, d1, d2, d3, d4, d5, d6, mM, mC, mO, mU, mT, coll_mono hC hRR, hK.mono hRR, hJ.mono hRR, hE.mono hRR, hS.mono hRR, natl_mono hr hRR, natl_mono ho hRR, hU.mono hRR⟩, d7', rows_mono hP fun q hq => List.mem_append_left _ hq, mX⟩
end
section
set_option maxHeartbeats 1000000 in
theorem segN {ns : List Int} (P : PureRows ns) : Seg 20 (StI ns (orderN ns)) := by
  rintro w p loose mean mg mb dp un gd outer A₀ base g L fa cd s m nx B X T C hL hd hu F N ⟨R, o7, cv, ov, uv, sv, ev, rv, jv, lk, tt, pv, tx, ⟨o1, o2, o3, o4, o5, o6, ps, tw, tm, rfl, hR, d1, d2, d3, d4, d5, d6, mM, mC, mO, mU, mT, hC, hK, hJ, hE, hS, hr, ho, ⟨sl, svs, sn, rfl, hs1, hs2⟩⟩, d7, ⟨pl, pvs, pn, rfl, hp1, hp2⟩, mX⟩
  show wpAny _ _ (execs (lawRec.body.drop 20) _) _ _ _
  dsimp only [lawRec, recOf, List.drop]
  have hnl := numsL_len ns
  have hel := orderE_len ns
  have hol := orderN_len ns
  have hkl := keysL_len ns
  have hsl : svs.length = (numsL ns).length + 1 := by rw [hs2.length]; simp [sumsL, hel]
  obtain ⟨kvs, kn, hk1, hk2⟩ := hK
  have hkv := hk2.length
  k_steps
  all_goals (try dsimp only)
  refine LC_eval (by with_unfolding_all rfl) (by rfl) (by decide) ?_
  k_steps
  all_goals (try dsimp only)
  generalize hNX : (cells7 L o1 o2 o3 o4 o5 o6 o7 ++ (88, tabObj ps) :: R : Ledger) = NX at N
  have hRX : ∀ q ∈ R, q ∈ NX := fun q hq => by rw [← hNX]; exact in_R hq
  have q2 : (L + 1 + 1, o2) ∈ NX := by rw [← hNX]; exact .tail _ (.tail _ (.tail _ (.tail _ (.tail _ (.head _)))))
  refine iter_list rfl F N (hRX _ hs1) (by rw [hs2.length, sumsL, List.length_map, List.length_range, orderE_len]; exact size71 (numsL_len ns)) fun I fp P1 Md St gg K hPi => ?_
  refine LC_B (x := Str.ofString "total") (K _) (by rfl) (fun i ys nx => ∃ Ad, nx = Ad ++ NX ∧ Above Ad NX ∧ All2 (RowV Ad) ys (((sumsL (orderE ns)).take i).map (rowT (keysL ns)))) ?_ ?_ ⟨[], rfl, Above.nil, .nil⟩ ?_ ?_
  · rintro i ys nx ⟨Ad, rfl, _⟩ p hp
    rw [List.mem_singleton.mp hp]
    exact List.mem_append_right _ (hRX _ hs1)
  · rintro i ys nx ⟨Ad, rfl, _, hy⟩
    rw [hy.length, List.length_map]
    exact List.length_take_le _ _
  · rintro i v ys nx h tk oI C1 D oCn m₂ c o u hi hP ⟨Ad, rfl, hAd, hy⟩ hn hoc hcC hcD hCo hDo hco hIo hD hCn hc0 F7 N7
    obtain ⟨tv, htv, hT⟩ := hs2.get (hPi i v _ hP)
    obtain ⟨ta, td, t0, t1, t2, t3, tn, rfl, hta, _⟩ := hT
    clear F N
    refine wpAny_assign_Name (cell_LC F7 N7 hoc hcC (fun p hp => ?_) rfl (fun h' o' F' N' d => ?_))
    · rcases List.mem_cons.mp hp with rfl | hp
      · exact fun e => hcD e.symm
      · exact hco p hp
    clear F7 N7
    refine wpAny_tests_nil ?_
    refine ite_go ?_
    have u1 : ∀ p ∈ NX, p ∈ (C1, oCn) :: (c, o') :: (D, lst ys) :: (I, oI) :: (Ad ++ NX) := fun p hp => .tail _ (.tail _ (.tail _ (.tail _ (List.mem_append_right _ hp))))
    have uc : (c, o') ∈ (C1, oCn) :: (c, o') :: (D, lst ys) :: (I, oI) :: (Ad ++ NX) := .tail _ (.head _)
    generalize hNY : ((C1, oCn) :: (c, o') :: (D, lst ys) :: (I, oI) :: (Ad ++ NX) : Ledger) = NY at N' u1 uc
    have u2 := u1 _ q2
    refine LC_eval (by with_unfolding_all rfl) (by rfl) (by decide) ?_
    dsimp only
    k_steps
    all_goals (try dsimp only)
    refine iter_list rfl F' N' (u1 _ (hRX _ hk1)) (by rw [hk2.length, keysL_len, sizeLine_eq]; decide) fun I2 fp2 P2 Md2 St2 gg2 K2 hPi2 => ?_
    refine LC_A (K2 _) (by decide) (fun i2 ys nx => nx = NY ∧ All2 (IntV []) ys (((keysL ns).take i2).map fun p => tv.at p.1 * p.2)) ?_ ?_ ⟨rfl, .nil⟩ ?_ ?_
    · rintro i2 ys nx ⟨rfl, _⟩ p hp
      rw [List.mem_singleton.mp hp]
      exact u1 _ (hRX _ hk1)
    · rintro i2 ys nx ⟨rfl, hy⟩
      rw [hy.length, List.length_map]
      exact List.length_take_le _ _
    · rintro i2 v2 ys2 nx h2 tk2 oI2 C2 D2 oC2 m2 hi2 hP2 ⟨rfl, hy2⟩ hn2 hCo2 hDo2 hIo2 hnD2 hnC2 F2 N2
      obtain ⟨⟨pc, pz⟩, hps, tka, tb0, tb1, tkn, rfl, htka⟩ := hk2.get (hPi2 i2 v2 _ hP2)
      have hpc := keysL_ok ns _ (List.mem_of_getElem? hps)
      have hsp := keysL_sign ns _ (List.mem_of_getElem? hps)
      dsimp only at htka hpc hsp
      refine tup_LC rfl F2 N2 (.tail _ (.tail _ (.tail _ (u1 _ (hRX _ htka))))) rfl rfl fun h3 F3 N3 => ?_
      clear F2 N2 F' N'
      refine assignInOrder_cons (wpAny_assign_Name (store_LC F3 N3 hn2 hCo2 fun h4 oC4 F4 N4 hn4 => ?_))
      clear F3 N3
      refine assignInOrder_cons (wpAny_assign_Name (store_LC F4 N4 hn4 hCo2 fun h5 oC5 F5 N5 hn5 => ?_))
      clear F4 N4 hn4
      refine assignInOrder_nil ?_
      refine wpAny_tests_nil ?_
      refine ite_go ?_
      dsimp only
      replace N5 : News g L h5 ((C2, oC5) :: (D2, lst ys2) :: (I2, oI2) :: nx) := N5
      have r1 : ∀ p ∈ nx, p ∈ (C2, oC5) :: (D2, lst ys2) :: (I2, oI2) :: nx := fun p hp => .tail _ (.tail _ (.tail _ hp))
      have rC : (C2, oC5) ∈ (C2, oC5) :: (D2, lst ys2) :: (I2, oI2) :: nx := .head _
      generalize hNX2 : ((C2, oC5) :: (D2, lst ys2) :: (I2, oI2) :: nx : Ledger) = NX2 at N5 r1 rC
      have rc := r1 _ uc
      generalize hm5 : (fun y => if y = Str.ofString "sign" then some (Value.int pz tb1) else _) = m5 at hn5
      have ms : m5 (Str.ofString "sign") = some (.int pz tb1) := by rw [← hm5]; rfl
      have mc : m5 (Str.ofString "c") = some (.int pc tb0) := by rw [← hm5]; rfl
      clear hm5
      k_steps
      all_goals (try dsimp only)
      obtain ⟨tx2, hx2⟩ := tot_at (t := tv) (t0 := t0) (t1 := t1) (t2 := t2) (t3 := t3) (dv := .ref td) hpc
      refine tupitem_at N5 (r1 _ (u1 _ (hRX _ hta))) (by omega) (by omega) hx2 ?_
      k_steps
      all_goals (try dsimp only)
      subst hNX2
      refine ⟨_, _, oC5, m5, nx, rfl, F5, N5, hn5, off3 hIo2 hDo2 hCo2, rfl, ?_⟩
      rw [take_at hps, List.map_append]
      exact hy2.append (.cons ⟨_, rfl⟩ .nil)
    · rintro D6 h11 tk11 ys11 nx11 ⟨rfl, hy11⟩ hn11 hl11 F11 N11
      clear F' N'
      rw [hkv, List.take_length] at hy11
      subst hNY
      refine ⟨o', _, d, h11, _, oCn, m₂, (D6, lst ys11) :: (Ad ++ NX), rfl, F11, News.sub N11 fun q hq => ?_, hn, fun q hq => ?_, (D6, lst ys11) :: Ad, rfl, hAd.cons fun q hq => hl11 q (u1 q hq), ?_⟩
      · exact mv5 q hq
      · simp only [List.mem_cons, List.not_mem_nil, or_false, not_or]
        rcases List.mem_cons.mp hq with rfl | hq
        · exact ⟨Nat.ne_of_gt (hl11 _ (.tail _ (.tail _ (.tail _ (.head _))))), Nat.ne_of_gt (hl11 _ (.tail _ (.tail _ (.head _)))), Nat.ne_of_gt (hl11 _ (.head _)), Nat.ne_of_gt (hl11 _ (.tail _ (.head _)))⟩
        · exact ⟨hIo q hq, hDo q (.tail _ hq), hCo q (.tail _ (.tail _ hq)), hco q (.tail _ hq)⟩
      · rw [take_at htv, List.map_append]
        exact lit_all2 hy (fun _ _ h => row_mono h fun q hq => .tail _ hq) ⟨D6, ys11, _, rfl, .head _, hy11⟩
  · rintro D7 h12 tk12 ys12 nx12 ⟨Ad, rfl, hAd, hy12⟩ hn12 hl12 F12 N12
    clear F N
    rw [hs2.length, List.take_length, P.2] at hy12
    have v1 : ∀ q ∈ NX, q ∈ (D7, lst ys12) :: (Ad ++ NX) := fun q hq => .tail _ (List.mem_append_right _ hq)
    have q7 : (L + 1 + 1 + 1 + 1 + 1 + 1 + 1, o7) ∈ (D7, lst ys12) :: (Ad ++ NX) := v1 _ (by rw [← hNX]; exact mem_cellsIn)
    have q5 : (L + 1 + 1 + 1 + 1 + 1, o5) ∈ (D7, lst ys12) :: (Ad ++ NX) := v1 _ (by rw [← hNX]; exact .tail _ (.tail _ (.head _)))
    have q1 : (L + 1, o1) ∈ (D7, lst ys12) :: (Ad ++ NX) := v1 _ (by rw [← hNX]; exact .tail _ (.tail _ (.tail _ (.tail _ (.tail _ (.tail _ (.head _)))))))
    k_steps
    all_goals (try dsimp only)
    refine eq_rows (a := Ad) (b := R) N12 (fun q hq => .tail _ (List.mem_append_left _ hq)) (fun q hq => v1 _ (hRX q hq)) (fun p hp q hq => Nat.ne_of_gt (hAd p hp q (hRX q hq))) (by show un + 1 < cLine; exact dpL hu (by decide)) (.head _) (v1 _ (hRX _ hp1)) hy12 hp2 ?_
    k_steps
    all_goals (try dsimp only)
    obtain ⟨xl, hxl, hTl⟩ := hs2.get' (sumsL_last (orderE ns))
    obtain ⟨la, ld, l0, l1, l2, l3, ln, rfl, hla, hle⟩ := hTl
    refine item_neg N12 (v1 _ (hRX _ hs1)) (by decide) (by omega) (by decide) (x := .ref la) (by rw [show ((-1 : Int) + (svs.length : Int)).toNat = (orderE ns).length by omega]; exact hxl) ?_
    k_steps
    all_goals (try dsimp only)
    refine tupitem_at N12 (v1 _ (hRX _ hla)) (by decide) (by decide) (x := .ref ld) rfl ?_
    k_steps
    all_goals (try dsimp only)
    obtain ⟨od, dkvs, hod, hsm, hdk, hdl, _⟩ := hle
    have hlet : dkvs.map (·.1) = (orderN ns).map fun k => S [97 + k] := by rw [hdl, tot_ls, orderE_flat]
    have hdn : dkvs.length = (numsL ns).length := by have := congrArg List.length hlet; simp at this; omega
    refine list_dict_N rfl F12 N12 (v1 _ (hRX _ hod)) hdk hsm (by omega) fun B1 c1 h13 tk13 bs1 F13 N13 l13 hb1 => ?_
    clear F12 N12
    rw [hlet] at hb1
    k_steps
    all_goals (try dsimp only)
    refine list_str_N rfl F13 N13 (by rw [sizeLine_eq, len_S]; simp; omega) fun B2 c2 h14 tk14 bs2 F14 N14 l14 hb2 => ?_
    clear F13 N13
    replace hb2 : All2 StrV bs2 ((textN ns).map fun l => S [l]) := hb2
    rw [List.map_map] at hb2
    k_steps
    all_goals (try dsimp only)
    refine eq_strs N14 (by show un < cLine; exact dpL (b := 0) hu (by decide)) (.tail _ (.head _)) (.head _) hb1 hb2 ?_
    subst hNX
    replace N14 : News g L h14 (cells7 L o1 o2 o3 o4 o5 o6 o7 ++ (88, tabObj ps) :: R) := News.sub N14 fun q hq => .tail _ (.tail _ (.tail _ (List.mem_append_right _ hq)))
    k_steps
    all_goals (try dsimp only)
    exact ⟨_, _, _, _, ps, rfl, F14, N14, List.mem_append_right _ (.head _), rfl⟩
end
end Mine
end
section
open PySem PySem.W PyProof.Rows
set_option Elab.async false
namespace Mine
set_option maxRecDepth 100000
/-! entries, their sums, weights -/
def ent (ns : List Int) (k : Nat) : Tot := (entsL ns).getD k zeroT
theorem entsL_map (ns : List Int) : entsL ns = (List.range (numsL ns).length).map (ent ns) := by
  apply List.ext_getElem
  · simp [entsL_len]
  · intro i h1 h2
    simp [ent, h1]
theorem orderE_map (ns : List Int) : orderE ns = (orderN ns).map (ent ns) := rfl
theorem add_at (t e : Tot) (c : Int) : (t.add e).at c = t.at c + e.at c := by
  unfold Tot.at Tot.add
  dsimp only
  split
  · omega
  · split <;> omega
theorem zero_at (c : Int) : zeroT.at c = 0 := by unfold Tot.at zeroT; dsimp only; split; rfl; split <;> rfl
theorem foldl_at (c : Int) : ∀ (es : List Tot) (t : Tot), (es.foldl Tot.add t).at c = t.at c + (es.map (·.at c)).sum
  | [], t => by simp
  | e :: r, t => by rw [List.foldl_cons, foldl_at c r, add_at, List.map_cons, List.sum_cons]; omega
theorem tot_atSum (es : List Tot) (c : Int) : (tot es).at c = (es.map (·.at c)).sum := by rw [tot, foldl_at, zero_at]; omega
theorem foldl_n : ∀ (es : List Tot) (t : Tot), (es.foldl Tot.add t).n = t.n + (es.map (·.n)).sum
  | [], t => by simp
  | e :: r, t => by rw [List.foldl_cons, foldl_n r, List.map_cons, List.sum_cons]; simp only [Tot.add]; omega
theorem tot_n (es : List Tot) : (tot es).n = (es.map (·.n)).sum := by rw [tot, foldl_n]; simp [zeroT]
theorem ent_get (ns : List Int) {k : Nat} (hk : k < (numsL ns).length) : ∃ l, ent ns k = entOf ((colsL ns).getD k (0, 0, 0)) l := by
  have h1 : (entsL ns)[k]? = some (ent ns k) := by simp [ent, entsL_len, hk]
  have h2 : (colsL ns)[k]? = some ((colsL ns).getD k (0, 0, 0)) := by simp [hk]
  have h3 : (lettersN (numsL ns).length)[k]? = some (97 + k) := by simp [hk]
  unfold entsL at h1
  rw [List.getElem?_zipWith, h2, h3] at h1
  exact ⟨_, (Option.some.inj h1).symm⟩
theorem ent_n (ns : List Int) {k : Nat} (hk : k < (numsL ns).length) : (ent ns k).n = 1 := by
  obtain ⟨l, e⟩ := ent_get ns hk
  rw [e]; rfl
theorem ent_at (ns : List Int) {k : Nat} (hk : k < (numsL ns).length) (c : Int) : (ent ns k).at c = at3 ((colsL ns).getD k (0, 0, 0)) c := by
  obtain ⟨l, e⟩ := ent_get ns hk
  rw [e]; rfl
theorem fmod_b (a : Int) {b : Int} (hb : 0 < b) : 0 ≤ a.fmod b ∧ a.fmod b < b := ⟨Int.fmod_nonneg_of_pos _ hb, Int.fmod_lt_of_pos _ hb⟩
theorem col_b (v c : Int) : -2 ≤ at3 (colOf v) c ∧ at3 (colOf v) c ≤ 2 := by
  have h1 := fmod_b v (b := 5) (by decide)
  have h2 := fmod_b (v.fdiv 5) (b := 5) (by decide)
  have h3 := fmod_b (v.fdiv 25) (b := 3) (by decide)
  unfold at3 colOf
  dsimp only
  split
  · omega
  · split <;> omega
theorem ent_b (ns : List Int) {k : Nat} (hk : k < (numsL ns).length) (c : Int) : -2 ≤ (ent ns k).at c ∧ (ent ns k).at c ≤ 2 := by
  rw [ent_at ns hk]
  have h2 : (colsL ns).getD k (0, 0, 0) = colOf ((numsL ns)[k]) := by simp [hk]
  rw [h2]
  exact col_b _ c
/-- of a way -/
theorem way_b (ns : List Int) (c : Int) : ∀ {way : List Nat}, (∀ k ∈ way, k < (numsL ns).length) → -(2 * (way.length : Int)) ≤ (tot (way.map (ent ns))).at c ∧ (tot (way.map (ent ns))).at c ≤ 2 * (way.length : Int)
  | [], _ => by rw [tot_atSum]; simp
  | k :: r, h => by
    have h1 := ent_b ns (h k (.head _)) c
    have h2 := way_b ns c (way := r) fun k hk => h k (.tail _ hk)
    rw [tot_atSum] at h2 ⊢
    rw [List.map_cons, List.map_cons, List.sum_cons, List.length_cons]
    omega
theorem way_n (ns : List Int) : ∀ {way : List Nat}, (∀ k ∈ way, k < (numsL ns).length) → (tot (way.map (ent ns))).n = (way.length : Int)
  | [], _ => by rw [tot_n]; simp
  | k :: r, h => by
    have h1 := ent_n ns (h k (.head _))
    have h2 := way_n ns (way := r) fun k hk => h k (.tail _ hk)
    rw [tot_n] at h2 ⊢
    rw [List.map_cons, List.map_cons, List.sum_cons, List.length_cons]
    omega
theorem way_row (ns : List Int) {way : List Nat} (h : ∀ k ∈ way, k < (numsL ns).length) : rowT (keysL ns) (tot (way.map (ent ns))) = pRow (colsL ns) (keysL ns) way := by
  unfold rowT pRow
  apply List.map_congr_left
  intro p _
  rw [tot_atSum, List.map_map]
  congr 2
  apply List.map_congr_left
  intro k hk
  exact ent_at ns (h k hk) p.1
theorem sumsL_way (ns : List Int) (way : List Nat) : sumsL (way.map (ent ns)) = (List.range (way.length + 1)).map fun i => tot ((way.take i).map (ent ns)) := by
  unfold sumsL
  rw [List.length_map]
  apply List.map_congr_left
  intro i _
  rw [List.map_take]
theorem rows_way (ns : List Int) {way : List Nat} (h : ∀ k ∈ way, k < (numsL ns).length) : (sumsL (way.map (ent ns))).map (rowT (keysL ns)) = plainL (colsL ns) (keysL ns) way := by
  rw [sumsL_way, List.map_map]
  unfold plainL
  apply List.map_congr_left
  intro i _
  exact way_row ns fun k hk => h k (List.mem_of_mem_take hk)
theorem range_lt (n : Nat) : ∀ k ∈ List.range n, k < n := fun _ hk => List.mem_range.mp hk
theorem pure_rows (ns : List Int) : PureRows ns := by
  constructor
  · rw [entsL_map]; exact rows_way ns (range_lt _)
  · rw [orderE_map]; exact rows_way ns (orderN_lt ns)
/-- the weight -/
def Wt (ns : List Int) (t : Tot) : Int := 10000 * (t.at (turnL ns) * (1 - (ns.length : Int).fmod 2 * 2)) + 100 * t.at ((turnL ns + 1).fmod 3) - t.at ((turnL ns + 2).fmod 3)
theorem Wt_add (ns : List Int) (t e : Tot) : Wt ns (t.add e) = Wt ns t + Wt ns e := by
  unfold Wt
  rw [add_at, add_at, add_at, Int.add_mul]
  omega
theorem Wt_zero (ns : List Int) : Wt ns zeroT = 0 := by unfold Wt; rw [zero_at, zero_at, zero_at]; omega
theorem Wt_way (ns : List Int) : ∀ (es : List Tot) (t : Tot), Wt ns (es.foldl Tot.add t) = Wt ns t + (es.map (Wt ns)).sum
  | [], t => by simp
  | e :: r, t => by rw [List.foldl_cons, Wt_way ns r, Wt_add, List.map_cons, List.sum_cons]; omega
def wt (ns : List Int) (k : Nat) : Int := Wt ns (ent ns k)
theorem Wt_tot (ns : List Int) (way : List Nat) : Wt ns (tot (way.map (ent ns))) = (way.map (wt ns)).sum := by
  rw [tot, Wt_way, Wt_zero, List.map_map]
  simp only [Int.zero_add]
  rfl
theorem sign_len (ns : List Int) : 1 - (ns.length : Int).fmod 2 * 2 = 1 ∨ 1 - (ns.length : Int).fmod 2 * 2 = -1 := by
  have := fmod_b (ns.length : Int) (b := 2) (by decide)
  omega
section
variable {x2 x3 y2 y3 : Int}
theorem cmp_two (a2 : -14 ≤ x3 ∧ x3 ≤ 14) (b2 : -14 ≤ y3 ∧ y3 ≤ 14) :
    ((if x2 < y2 then -1 else if x2 > y2 then 1 else if x3 < y3 then - -1 else if x3 > y3 then -1 else 0 : Int) < 0 ↔ 100 * x2 - x3 < 100 * y2 - y3) ∧
    ((if x2 < y2 then -1 else if x2 > y2 then 1 else if x3 < y3 then - -1 else if x3 > y3 then -1 else 0 : Int) = 1 ↔ 100 * y2 - y3 < 100 * x2 - x3) := by
  constructor
  all_goals
    split
    · omega
    · split
      · omega
      · split
        · omega
        · split <;> omega
/-- one more column ahead, with a sign -/
theorem cmp_more {x1 y1 u v d R : Int} (hd : d = 1 ∨ d = -1) (hu : -5000 ≤ u ∧ u ≤ 4999) (hv : -5000 ≤ v ∧ v ≤ 4999) (h : (R < 0 ↔ u < v) ∧ (R = 1 ↔ v < u)) :
    ((if x1 < y1 then -d else if x1 > y1 then d else R) < 0 ↔ 10000 * (x1 * d) + u < 10000 * (y1 * d) + v) ∧ ((if x1 < y1 then -d else if x1 > y1 then d else R) = 1 ↔ 10000 * (y1 * d) + v < 10000 * (x1 * d) + u) := by
  rcases Int.lt_trichotomy x1 y1 with h1 | rfl | h1
  · rw [if_pos h1]; rcases hd with rfl | rfl <;> constructor <;> omega
  · rw [if_neg (Int.lt_irrefl _), if_neg (Int.lt_irrefl _)]
    exact ⟨h.1.trans (Int.add_lt_add_iff_left _).symm, h.2.trans (Int.add_lt_add_iff_left _).symm⟩
  · rw [if_neg (Int.not_lt.mpr (Int.le_of_lt h1)), if_pos h1]; rcases hd with rfl | rfl <;> constructor <;> omega
theorem two_b (a : -14 ≤ x2 ∧ x2 ≤ 14) (b : -14 ≤ x3 ∧ x3 ≤ 14) : -5000 ≤ 100 * x2 - x3 ∧ 100 * x2 - x3 ≤ 4999 := by omega
end
theorem cmp_lt (ns : List Int) {a b : Tot} (ha : ∀ c, -14 ≤ a.at c ∧ a.at c ≤ 14) (hb : ∀ c, -14 ≤ b.at c ∧ b.at c ≤ 14) : (cmpK (keysL ns) a b < 0 ↔ Wt ns a < Wt ns b) ∧ (cmpK (keysL ns) a b = 1 ↔ Wt ns b < Wt ns a) := by
  unfold keysL Wt
  simp only [cmpK, Int.add_sub_assoc]
  exact cmp_more (sign_len ns) (two_b (ha _) (ha _)) (two_b (hb _) (hb _)) (cmp_two (ha _) (hb _))
end Mine
end
section
open PySem PySem.W PyProof.Rows
set_option Elab.async false
namespace Mine
set_option maxRecDepth 100000
/-! Sparre Andersen, on a sequence of ints -/
def Sw (w : Nat → Int) (k : Nat) : Int := ((List.range k).map w).sum
def upW (w : Nat → Int) (k : Nat) : Bool := decide (0 < Sw w (k + 1))
def RW (w : Nat → Int) (k : Nat) : List Nat := (List.range k).filter (upW w)
def NW (w : Nat → Int) (k : Nat) : List Nat := (List.range k).filter (fun i => !upW w i)
def OW (w : Nat → Int) (k : Nat) : List Nat := (RW w k).reverse ++ NW w k
abbrev sumW (w : Nat → Int) (l : List Nat) : Int := (l.map w).sum
theorem sumW_append (w : Nat → Int) (a b : List Nat) : sumW w (a ++ b) = sumW w a + sumW w b := by simp [sumW, List.sum_append]
theorem sumW_one (w : Nat → Int) (k : Nat) : sumW w [k] = w k := by simp [sumW]
theorem sumW_reverse (w : Nat → Int) : ∀ l : List Nat, sumW w l.reverse = sumW w l
  | [] => rfl
  | a :: l => by
    rw [List.reverse_cons, sumW_append, sumW_reverse w l, sumW_one]
    show _ = ((a :: l).map w).sum
    rw [List.map_cons, List.sum_cons]; exact Int.add_comm _ _
theorem Sw_succ (w : Nat → Int) (k : Nat) : Sw w (k + 1) = Sw w k + w k := by
  show sumW w (List.range (k + 1)) = _
  rw [List.range_succ, sumW_append, sumW_one]; rfl
theorem RW_yes {w : Nat → Int} {k : Nat} (h : upW w k = true) : RW w (k + 1) = RW w k ++ [k] := filt_yes h
theorem RW_no {w : Nat → Int} {k : Nat} (h : upW w k = false) : RW w (k + 1) = RW w k := filt_no h
theorem NW_yes {w : Nat → Int} {k : Nat} (h : upW w k = true) : NW w (k + 1) = NW w k := filt_no (p := fun i => !upW w i) (by show (!upW w k) = false; rw [h]; rfl)
theorem NW_no {w : Nat → Int} {k : Nat} (h : upW w k = false) : NW w (k + 1) = NW w k ++ [k] := filt_yes (p := fun i => !upW w i) (by show (!upW w k) = true; rw [h]; rfl)
theorem sums_AB (w : Nat → Int) : ∀ k, sumW w (RW w k) + sumW w (NW w k) = Sw w k ∧ 0 ≤ sumW w (RW w k) ∧ sumW w (NW w k) ≤ 0
  | 0 => by simp [RW, NW, Sw, sumW]
  | k + 1 => by
    obtain ⟨h1, h2, h3⟩ := sums_AB w k
    have hs := Sw_succ w k
    cases hu : upW w k with
    | true =>
      have := of_decide_eq_true hu
      rw [RW_yes hu, NW_yes hu, sumW_append, sumW_one]
      omega
    | false =>
      have := of_decide_eq_false hu
      rw [RW_no hu, NW_no hu, sumW_append, sumW_one]
      omega
theorem take_R (w : Nat → Int) : ∀ (k j : Nat), 1 ≤ j → j ≤ (RW w k).length → 0 < sumW w ((RW w k).take j)
  | 0, j, h1, h2 => by simp [RW] at h2; omega
  | k + 1, j, h1, h2 => by
    cases hu : upW w k with
    | false => rw [RW_no hu] at h2 ⊢; exact take_R w k j h1 h2
    | true =>
      by_cases hj : j ≤ (RW w k).length
      · rw [RW_yes hu, List.take_append_of_le_length hj]
        exact take_R w k j h1 hj
      · rw [List.take_of_length_le (by rw [RW_yes hu] at h2 ⊢; simp at h2 ⊢; omega)]
        obtain ⟨a1, a2, a3⟩ := sums_AB w (k + 1)
        obtain ⟨b1, b2, b3⟩ := sums_AB w k
        have := of_decide_eq_true hu
        rw [NW_yes hu] at a1
        omega
theorem take_N (w : Nat → Int) : ∀ (k j : Nat), sumW w ((NW w k).take j) ≤ 0
  | 0, j => by simp [NW, sumW]
  | k + 1, j => by
    cases hu : upW w k with
    | true => rw [NW_yes hu]; exact take_N w k j
    | false =>
      by_cases hj : j ≤ (NW w k).length
      · rw [NW_no hu, List.take_append_of_le_length hj]
        exact take_N w k j
      · rw [List.take_of_length_le (by rw [NW_no hu]; simp; omega)]
        exact (sums_AB w (k + 1)).2.2
theorem OW_yes {w : Nat → Int} {k : Nat} (h : upW w k = true) : OW w (k + 1) = k :: OW w k := by
  unfold OW
  rw [RW_yes h, NW_yes h, List.reverse_append]; rfl
theorem OW_no {w : Nat → Int} {k : Nat} (h : upW w k = false) : OW w (k + 1) = OW w k ++ [k] := by
  unfold OW
  rw [RW_no h, NW_no h, List.append_assoc]
theorem OW_sum (w : Nat → Int) (k : Nat) : sumW w (OW w k) = Sw w k := by
  unfold OW
  rw [sumW_append, sumW_reverse]
  exact (sums_AB w k).1
/-- the sums on the way: greatest at the rises' number, there first -/
theorem peak_lt (w : Nat → Int) (n : Nat) {i : Nat} (hi : i < (RW w n).length) : sumW w ((OW w n).take i) < sumW w ((OW w n).take (RW w n).length) := by
  have e1 : (OW w n).take (RW w n).length = (RW w n).reverse := by
    unfold OW
    rw [List.take_append_of_le_length (by simp), List.take_of_length_le (by simp)]
  have e2 : (OW w n).take i = (RW w n).reverse.take i := by
    unfold OW
    rw [List.take_append_of_le_length (by simp; omega)]
  have e3 : (RW w n).reverse = (RW w n).reverse.take i ++ (RW w n).reverse.drop i := (List.take_append_drop _ _).symm
  have e4 : (RW w n).reverse.drop i = ((RW w n).take ((RW w n).length - i)).reverse := by rw [List.drop_reverse]
  have h := take_R w n ((RW w n).length - i) (by omega) (by omega)
  rw [e1, e2]
  have : sumW w (RW w n).reverse = sumW w ((RW w n).reverse.take i) + sumW w ((RW w n).take ((RW w n).length - i)) := by
    conv => lhs; rw [e3]
    rw [sumW_append, e4, sumW_reverse]
  omega
theorem peak_le (w : Nat → Int) (n : Nat) {i : Nat} (hi : (RW w n).length ≤ i) : sumW w ((OW w n).take i) ≤ sumW w ((OW w n).take (RW w n).length) := by
  have e1 : (OW w n).take (RW w n).length = (RW w n).reverse := by
    unfold OW
    rw [List.take_append_of_le_length (by simp), List.take_of_length_le (by simp)]
  have e2 : (OW w n).take i = (RW w n).reverse ++ (NW w n).take (i - (RW w n).length) := by
    unfold OW
    rw [List.take_append, List.take_of_length_le (by simp; omega), List.length_reverse]
  have h := take_N w n (i - (RW w n).length)
  rw [e1, e2, sumW_append]
  omega
/-- taken away one by one, in their first order -/
theorem back_OW (w : Nat → Int) (up : List Nat → Bool) (n : Nat) (hup : ∀ k, k ≤ n → up (OW w k) = decide (0 < Sw w k)) : ∀ k, k ≤ n → ∀ found, backN up k (OW w k) found = List.range k ++ found
  | 0, _, found => rfl
  | k + 1, hk, found => by
    rw [backN, hup (k + 1) hk]
    cases hu : upW w k with
    | true =>
      rw [if_pos (by exact hu), OW_yes hu]
      show backN up k (OW w k) (k :: found) = _
      rw [back_OW w up n hup k (by omega), List.range_succ, List.append_assoc]; rfl
    | false =>
      rw [if_neg (by rw [show decide (0 < Sw w (k + 1)) = false from hu]; simp), OW_no hu, List.dropLast_concat]
      rw [show (OW w k ++ [k]).getLastD 0 = k by simp]
      rw [back_OW w up n hup k (by omega), List.range_succ, List.append_assoc]; rfl
/-- the earliest of the greatest -/
theorem foldl_step (W : Tot → Int) {b : Tot} : ∀ (l1 l2 : List Tot), (∀ x ∈ l1, W x < W b) → (∀ x ∈ l2, W x ≤ W b) → ∀ o : Option Tot, (∀ x, o = some x → W x < W b) → (l1 ++ b :: l2).foldl (step W) o = some b
  | x :: l1, l2, h1, h2, o, ho => by
    rw [List.cons_append, List.foldl_cons]
    refine foldl_step W l1 l2 (fun y hy => h1 y (.tail _ hy)) h2 _ fun y hy => ?_
    cases o with
    | none => simp [step] at hy; rw [← hy]; exact h1 x (.head _)
    | some z =>
      simp only [step, Option.some.injEq] at hy
      have hz := ho z rfl
      have hx := h1 x (.head _)
      split at hy <;> (rw [← hy]; assumption)
  | [], l2, _, h2, o, ho => by
    rw [List.nil_append, List.foldl_cons]
    have e : step W o b = some b := by
      cases o with
      | none => rfl
      | some z => rw [step, if_pos (ho z rfl)]
    rw [e]
    clear e ho
    induction l2 with
    | nil => rfl
    | cons x l2 ih =>
      rw [List.foldl_cons]
      have hx := h2 x (.head _)
      rw [show step W (some b) x = some b by rw [step, if_neg (by omega)]]
      exact ih fun y hy => h2 y (.tail _ hy)
end Mine
end
section
open PySem PySem.W PyProof.Rows
set_option Elab.async false
namespace Mine
set_option maxRecDepth 100000
theorem way14 (ns : List Int) {way : List Nat} (h : ∀ k ∈ way, k < (numsL ns).length) (hl : way.length ≤ 7) (c : Int) : -14 ≤ (tot (way.map (ent ns))).at c ∧ (tot (way.map (ent ns))).at c ≤ 14 := by
  have := way_b ns c h
  omega
theorem zero14 (c : Int) : -14 ≤ zeroT.at c ∧ zeroT.at c ≤ 14 := by rw [zero_at]; omega
/-- greater than nothing -/
theorem way_up (ns : List Int) {way : List Nat} (h : ∀ k ∈ way, k < (numsL ns).length) (hl : way.length ≤ 7) : cmpK (keysL ns) (tot (way.map (ent ns))) zeroT = 1 ↔ 0 < sumW (wt ns) way := by
  rw [(cmp_lt ns (way14 ns h hl) zero14).2, Wt_zero, Wt_tot]
theorem take_ents (ns : List Int) {k : Nat} (hk : k ≤ (numsL ns).length) : (entsL ns).take k = (List.range k).map (ent ns) := by
  rw [entsL_map, ← List.map_take, List.take_range, Nat.min_eq_left hk]
theorem upN_eq (ns : List Int) {k : Nat} (hk : k < (numsL ns).length) : upN (entsL ns) (keysL ns) k = upW (wt ns) k := by
  have hn := numsL_len ns
  unfold upN upW
  rw [take_ents ns (by omega)]
  rw [decide_eq_decide]
  exact way_up ns (fun j hj => by have := List.mem_range.mp hj; omega) (by simp; omega)
theorem risesN_eq (ns : List Int) : risesN ns = RW (wt ns) (numsL ns).length :=
  List.filter_congr fun k hk => upN_eq ns (List.mem_range.mp hk)
theorem order_not (p : Nat → Bool) (n : Nat) : orderL ((List.range n).filter p) n = ((List.range n).filter p).reverse ++ (List.range n).filter (fun k => !p k) := by
  unfold orderL
  congr 1
  apply List.filter_congr
  intro k hk
  congr 1
  rw [Bool.eq_iff_iff, List.contains_iff_mem, List.mem_filter]
  exact ⟨fun h => h.2, fun h => ⟨hk, h⟩⟩
theorem orderN_eq (ns : List Int) : orderN ns = OW (wt ns) (numsL ns).length := by
  show orderL (risesN ns) _ = _
  rw [risesN_eq]
  exact order_not _ _
theorem pure_top (ns : List Int) : PureTop ns := by
  have hn := numsL_len ns
  have hol := orderN_len ns
  have hlt := orderN_lt ns
  have hr : (risesN ns).length ≤ (numsL ns).length := Nat.le_trans (List.length_filter_le _ _) (by simp)
  have hmem : ∀ {i : Nat}, ∀ k ∈ (orderN ns).take i, k < (numsL ns).length := fun k hk => hlt k (List.mem_of_mem_take hk)
  have hlen : ∀ i : Nat, ((orderN ns).take i).length ≤ 7 := fun i => by rw [List.length_take]; omega
  have hwt : ∀ i, Wt ns (tot (((orderN ns).take i).map (ent ns))) = sumW (wt ns) ((orderN ns).take i) := fun i => Wt_tot ns _
  refine ⟨Wt ns, tot (((orderN ns).take (risesN ns).length).map (ent ns)), ?_, ?_, ?_⟩
  · intro a ha c hc
    rw [orderE_map, sumsL_way] at ha hc
    obtain ⟨i, _, rfl⟩ := List.mem_map.mp ha
    obtain ⟨j, _, rfl⟩ := List.mem_map.mp hc
    exact (cmp_lt ns (way14 ns hmem (hlen i)) (way14 ns hmem (hlen j))).1
  · rw [orderE_map, sumsL_way]
    have e : List.range ((orderN ns).length + 1) = List.range (risesN ns).length ++ (risesN ns).length :: (List.range ((orderN ns).length - (risesN ns).length)).map ((risesN ns).length + 1 + ·) := by
      rw [show (orderN ns).length + 1 = (risesN ns).length + (1 + ((orderN ns).length - (risesN ns).length)) by omega, List.range_add]
      congr 1
      rw [Nat.add_comm 1, List.range_succ_eq_map, List.map_cons, List.map_map]
      congr 1
      apply List.map_congr_left
      intro i _
      show (risesN ns).length + (i + 1) = _
      omega
    rw [e, List.map_append, List.map_cons]
    refine foldl_step _ _ _ ?_ ?_ none (fun x hx => by cases hx)
    · intro x hx
      obtain ⟨i, hi, rfl⟩ := List.mem_map.mp hx
      have hi' := List.mem_range.mp hi
      rw [hwt, hwt, orderN_eq, risesN_eq]
      rw [risesN_eq] at hi'
      exact peak_lt (wt ns) _ hi'
    · intro x hx
      obtain ⟨i, hi, rfl⟩ := List.mem_map.mp hx
      obtain ⟨j, _, rfl⟩ := List.mem_map.mp hi
      rw [hwt, hwt, orderN_eq, risesN_eq]
      exact peak_le (wt ns) _ (by omega)
  · rw [way_n ns hmem, List.length_take]
    omega
theorem OW_perm (w : Nat → Int) (k : Nat) : (OW w k).Perm (List.range k) := by
  have := order_perm (upW w) k
  rwa [order_not] at this
theorem pure_back (ns : List Int) : PureBack ns := by
  have hn := numsL_len ns
  unfold PureBack
  rw [orderN_len, orderN_eq]
  have := back_OW (wt ns) (upOf (entsL ns) (keysL ns)) (numsL ns).length ?_ (numsL ns).length (Nat.le_refl _) []
  · rw [this, List.append_nil]
  · intro k hk
    have hp := OW_perm (wt ns) k
    rw [← OW_sum, upOf, decide_eq_decide]
    exact way_up ns (fun j hj => by have := List.mem_range.mp (hp.mem_iff.mp hj); omega) (by rw [hp.length_eq, List.length_range]; omega)
theorem gt_more {x d R : Int} {l m : List Int} (hd : d = 1 ∨ d = -1) (h : gtL l m = decide (R = 1)) : gtL (x * d :: l) (0 :: m) = decide ((if x < 0 then -d else if x > 0 then d else R) = 1) := by
  rw [gtL]
  rcases Int.lt_trichotomy x 0 with h1 | rfl | h1
  · rw [if_pos h1]; rcases hd with rfl | rfl
    · rw [Int.mul_one, if_neg (Int.ne_of_lt h1)]; exact decide_eq_false (Int.not_lt.mpr (Int.le_of_lt h1))
    · rw [Int.mul_neg, Int.mul_one, if_neg (Int.ne_of_gt (Int.neg_pos_of_neg h1))]; exact decide_eq_true (Int.neg_pos_of_neg h1)
  · rw [Int.zero_mul, if_pos rfl, if_neg (Int.lt_irrefl _), if_neg (Int.lt_irrefl _)]; exact h
  · rw [if_neg (Int.not_lt.mpr (Int.le_of_lt h1)), if_pos h1]; rcases hd with rfl | rfl
    · rw [Int.mul_one, if_neg (Int.ne_of_gt h1)]; exact decide_eq_true h1
    · rw [Int.mul_neg, Int.mul_one, if_neg (Int.ne_of_lt (Int.neg_neg_of_pos h1))]; exact decide_eq_false (Int.not_lt.mpr (Int.le_of_lt (Int.neg_neg_of_pos h1)))
theorem pure_gt (ns : List Int) : PureGt ns := by
  have hn := numsL_len ns
  intro k hk
  have hm : ∀ j ∈ List.range (k + 1), j < (numsL ns).length := fun j hj => by have := List.mem_range.mp hj; omega
  rw [List.take_range, Nat.min_eq_left hk, ← way_row ns hm, upN, take_ents ns hk]
  unfold rowT keysL
  simp only [List.map_cons, List.map_nil, cmpK, zero_at]
  exact gt_more (sign_len ns) (gt_more (.inl rfl) (gt_more (.inr rfl) rfl))
theorem masks_mem : ∀ (m : List Bool), m ∈ masks m.length
  | [] => .head _
  | b :: m => by
    rw [List.length_cons, masks, List.mem_flatMap]
    exact ⟨m, masks_mem m, by cases b <;> simp⟩
theorem pick_map {α : Type} (p : α → Bool) (f : α → Nat) : ∀ l : List α, pick (l.map p) (l.map f) = (l.filter p).map f
  | [] => rfl
  | a :: l => by
    rw [List.map_cons, List.map_cons, List.filter_cons]
    cases h : p a with
    | true => rw [pick, pick_map p f l, if_pos rfl, List.map_cons]
    | false => rw [pick, pick_map p f l]; simp
theorem lev_filter {n : Nat} (h : 3 ≤ n ∧ n ≤ 7) (p : Nat → Bool) : levL (lettersN n) (((List.range n).filter p).map (97 + ·)) = 2 * ((n : Int) - ((List.range n).filter p).length) := by
  have hm : (List.range n).map p ∈ masks n := by
    have := masks_mem ((List.range n).map p)
    rwa [List.length_map, List.length_range] at this
  have := lev_all n (by simp; omega) _ hm
  rw [pick_map, List.length_map] at this
  exact this
theorem pure_lev (ns : List Int) : PureLev ns := by
  have hn := numsL_len ns
  have e : orderN ns = (risesN ns).reverse ++ (List.range (numsL ns).length).filter (fun k => !upN (entsL ns) (keysL ns) k) := order_not _ _
  have e1 : ((textN ns).take (risesN ns).length).reverse = (risesN ns).map (97 + ·) := by
    unfold textN
    rw [e, ← List.map_take, List.take_append_of_le_length (by simp), List.take_of_length_le (by simp), List.map_reverse, List.reverse_reverse]
  have e2 : (textN ns).drop (risesN ns).length = ((List.range (numsL ns).length).filter (fun k => !upN (entsL ns) (keysL ns) k)).map (97 + ·) := by
    unfold textN
    rw [e, ← List.map_drop, List.drop_append_of_le_length (by simp), List.drop_of_length_le (by simp), List.nil_append]
  have hl := congrArg List.length e
  rw [orderN_len, List.length_append, List.length_reverse] at hl
  constructor
  · rw [e1]; exact lev_filter hn _
  · rw [e2, lev_filter hn]
    omega
end Mine
end
section
open PySem PySem.W PyProof.Rows
set_option Elab.async false
namespace Mine
set_option maxRecDepth 100000
theorem seg_all (ns : List Int) : Seg 0 (StA ns) :=
  segA (segB (segC (segD (segE (segF (pure_top ns) (segG (pure_back ns) (segH (segI (pure_lev ns) (segJ (segK (pure_gt ns) (segL (pure_rows ns) (segM (segN (pure_rows ns))))))))))))))
set_option maxHeartbeats 4000000 in
theorem law_holds : PySem.Challenge.rw_pg0156_01.Holds := hd (by
  k_go0
  rename IntsAre _ _ => hI1
  rename Frag.In _ _ => X1
  rename Top _ _ _ _ _ _ => T1
  rename Below _ _ _ _ => B1
  rename Fr _ _ _ _ => F1
  rename News _ _ _ _ => N1
  refine wpAny_mono (seg_all _ _ _ _ _ _ _ _ _ _ _ _ _ _ _ _ _ _ _ _ B1 X1 T1 codeHd (by assumption) (by decide) (by decide) F1 N1 ⟨_, _, _, _, _, _, _, _, _, rfl, lifted, hI1, by omega, rfl, by assumption, by assumption, by assumption, by assumption, by assumption, by assumption, by assumption⟩) (fun f s' h => ?_) (fun _ _ e => e.elim)
  obtain ⟨h', tk', m', nx, ps, rfl, F2, N2, hps, rfl⟩ := h
  dsimp only
  refine ⟨?_, GrownAt.of N2 hps, trivial⟩
  refine goodW_bool F2 (by assumption) (raisesW_false ?_) ?_
  · wrow_none_raised
  · wrow_post)
end Mine
end
set_option Elab.async false
theorem PySem.Challenge.cw_pg0156_01_holds : PySem.Challenge.rw_pg0156_01.Holds := by
  exact Mine.law_holds
