import PyProof.Rows.All
import Wide.All
import OpenK.AllK
import Wide.FinOn
import Lean
import PySem.Challenge.RW_wn0081_01

set_option Elab.async false

namespace Net81
local macro_rules | `(tactic| walk_at $s:str) => `(tactic| k_extra $s)

section
open PySem PySem.W PySem.Calls PyProof.Rows
set_option maxRecDepth 100000
set_option maxHeartbeats 8000000
theorem left_boot {p q : Program} {loose : List Str} {Xt : Shared → Bool} {α : Type} {Yf : Shared → α} {Ya : World → α} {N : Nat} {g0 : Bool} (row : String)
    (e : opening p = plainProg p.main.scope.names) (hN : Nat.ble 600 N = true) (f : ∀ s, fenceModules? p s = some s)
    (h : ∀ (b : Bool) (w : World) (os : OsState), (topFrom treeTable p (w.withFollow row b) N ⟨boot_heap w.params, Array.mk [], boot_drawn, boot_toks, os⟩).map (fun s => (openSeen q loose (importedModules p.main.body) Xt g0 s, Yf s)) = some (openGood q loose, Ya (w.withFollow row b))) :
    LeftO p q loose Xt Yf Ya N g0 := fun w => by
  obtain ⟨s, hs, hv⟩ := Option.map_eq_some_iff.mp (boot_open e hN f w)
  obtain ⟨h1, g1, d1, k1, o1⟩ := s
  have e1 : h1 = boot_heap w.params := congrArg (fun x => x.1) hv
  have e2 : g1 = Array.mk [] := congrArg (fun x => x.2.1) hv
  have e3 : d1 = boot_drawn := congrArg (fun x => x.2.2.1) hv
  have e4 : k1 = boot_toks := congrArg (fun x => x.2.2.2) hv
  subst e1 e2 e3 e4
  unfold openEnds
  rw [hs]
  have e := World.withFollow_self w row
  have := h (w.params.followText row) w o1
  rw [e] at this
  exact this
noncomputable def vw : Program := view (OpenLaw.row PySem.Challenge.rw_wn0081_01).prog [0, 2, 3, 4, 5, 6, 7, 9, 11, 13, 14, 15, 16, 17, 18, 19, 20, 21, 22, 23]
noncomputable abbrev XtW (s : Shared) : Bool := xlAt vw [] s && recOk (RowW.records (OpenRow.toRowW (OpenLaw.row PySem.Challenge.rw_wn0081_01))) s
/-- the head of this law, all but the witness, the top and the walk -/
theorem head81 (H : Hook) {d : DefRec} {kwd : List (Str × Expr)}
    (hdef : defOf vw (OpenLaw.row PySem.Challenge.rw_wn0081_01).name = some (d, kwd)) (hp : (OpenLaw.row PySem.Challenge.rw_wn0081_01).prog.theDef (OpenLaw.row PySem.Challenge.rw_wn0081_01).name = some (d.params, d.body, d.scope)) (hk : kwWritten? d.params.kwonlyargs d.params.kw_defaults = some kwd)
    (said : (OpenLaw.row PySem.Challenge.rw_wn0081_01).wellSaid = true)
    (hw : (OpenRow.toRowW (OpenLaw.row PySem.Challenge.rw_wn0081_01)).promised)
    (hc : LeftO (OpenLaw.row PySem.Challenge.rw_wn0081_01).prog vw [Str.ofString "Whitespace"] XtW (Hook.obs H) (Hook.val H) 2304 ∧ WalkO vw [Str.ofString "Whitespace"] (XL vw []) (Hook.says H) (OpenRow.toRowW (OpenLaw.row PySem.Challenge.rw_wn0081_01)) d kwd fun f vs => PySem.call f vs) :
    (OpenLaw.row PySem.Challenge.rw_wn0081_01).Holds :=
  holds_open hc.1 (q := vw) (loose := [Str.ofString "Whitespace"]) (Xt := XtW) (XP := XL vw []) (Yf := Hook.obs H) (Ya := Hook.val H) (YP := Hook.says H) (N := 2304) (Hook.of H) (Hook.keeps H) (fun s e => xl_of s (Bool.and_eq_true_iff.mp e).1) XL.keeps hdef hp hk (fun s e => recFacts_of (Bool.and_eq_true_iff.mp e).2) (by rfl) said (by decide +kernel) ⟨rfl, rfl, rfl, rfl, rfl, by decide +kernel⟩ hw hc.2
local macro_rules | `(tactic| o_head $H) => `(tactic| (refine head81 $H (by rfl) (by rfl) (by rfl) (by assumption) ?hw ?hc))
open_top hd81 for PySem.Challenge.rw_wn0081_01
noncomputable def asL : List Addr := [2, 3, 15, 17, 18, 20, 21, 22, 24, 25, 27, 28, 29, 31, 32, 34, 35, 36, 38, 39, 41, 42, 43, 45, 46, 48, 49, 50, 52, 53, 55, 56, 57, 59, 60, 62, 63, 64, 66, 67, 69, 70, 81, 83, 84, 86, 87, 88, 90, 91, 93, 94, 95, 97, 98, 100, 101, 102, 104, 105, 107, 108, 109, 111, 112, 114, 115, 116, 118, 119, 121, 122, 123, 125, 126, 128, 129, 130, 131, 132, 133, 134, 137, 139, 140, 142, 143, 144, 147, 148, 149, 152, 153, 154, 156, 157, 159, 160, 161, 164, 165, 166, 168, 169, 171, 172, 173, 176, 177, 178, 181, 182, 183, 185, 186, 188, 189, 190, 192, 193, 195, 196, 197, 200, 201]
theorem as_eq : ∀ P, asL = (hd81.heap_39 P).map (·.1) := fun _ => by kernel_rfl
noncomputable abbrev PR : Program := (OpenLaw.row PySem.Challenge.rw_wn0081_01).prog
noncomputable abbrev HK : Hook := kHook hd81.heap_39 asL as_eq
theorem top_no : ∀ (w : World) (os : OsState), (topFrom treeTable PR (w.withFollow "special-get-raises" false) 2304 ⟨boot_heap w.params, Array.mk [], boot_drawn, boot_toks, os⟩).map (fun s => (openSeen vw [Str.ofString "Whitespace"] (importedModules PR.main.body) XtW true s, HK.obs s)) = some (openGood vw [Str.ofString "Whitespace"], HK.val (w.withFollow "special-get-raises" false)) := by
  intro w os
  unfold topFrom
  rewrite [Fast.te14082659384304107361, Fast.te14364793385576792824]
  kernel_rfl
theorem top_yes : ∀ (w : World) (os : OsState), (topFrom treeTable PR (w.withFollow "special-get-raises" true) 2304 ⟨boot_heap w.params, Array.mk [], boot_drawn, boot_toks, os⟩).map (fun s => (openSeen vw [Str.ofString "Whitespace"] (importedModules PR.main.body) XtW true s, HK.obs s)) = some (openGood vw [Str.ofString "Whitespace"], HK.val (w.withFollow "special-get-raises" true)) := by
  intro w os
  unfold topFrom
  rewrite [Fast.te14082659384304107361, Fast.te14364793385576792824]
  kernel_rfl
theorem top_left : LeftO PR vw [Str.ofString "Whitespace"] XtW HK.obs HK.val 2304 :=
  left_boot "special-get-raises" (by kernel_rfl) (by rfl) (fun s => by kernel_rfl) fun b => by
    cases b
    · exact top_no
    · exact top_yes
end

section
/-! plain: nets of six nodes as numbers of fifteen bits -/

noncomputable def eIdx (i j : Nat) : Nat := if j < i then i * (i - 1) / 2 + j else j * (j - 1) / 2 + i
noncomputable def edge (g i j : Nat) : Bool := i != j && g.testBit (eIdx i j)
noncomputable def rowN (g i : Nat) : Nat :=
  (edge g i 0).toNat + 2 * (edge g i 1).toNat + 4 * (edge g i 2).toNat + 8 * (edge g i 3).toNat + 16 * (edge g i 4).toNat + 32 * (edge g i 5).toNat
noncomputable def deg (g i : Nat) : Nat :=
  (edge g i 0).toNat + (edge g i 1).toNat + (edge g i 2).toNat + (edge g i 3).toNat + (edge g i 4).toNat + (edge g i 5).toNat
noncomputable def six (f : Nat → Nat) : List Int := [(f 0 : Int), (f 1 : Int), (f 2 : Int), (f 3 : Int), (f 4 : Int), (f 5 : Int)]
noncomputable def rowsOf (g : Nat) : List Int := six (rowN g)
noncomputable def degsOf (g : Nat) : List Int := six (deg g)
noncomputable def addE (g i j : Nat) : Nat := g ||| 2 ^ eIdx i j
noncomputable def allPairs : List (Nat × Nat) := [(1,0),(2,0),(2,1),(3,0),(3,1),(3,2),(4,0),(4,1),(4,2),(4,3),(5,0),(5,1),(5,2),(5,3),(5,4)]
noncomputable def untiedOf (g : Nat) : List (Nat × Nat) := allPairs.filter fun p => !edge g p.1 p.2

theorem toNat_le (b : Bool) : b.toNat ≤ 1 := by cases b <;> decide
theorem rowN_lt (g i : Nat) : rowN g i < 64 := by
  unfold rowN
  have h0 := toNat_le (edge g i 0); have h1 := toNat_le (edge g i 1); have h2 := toNat_le (edge g i 2)
  have h3 := toNat_le (edge g i 3); have h4 := toNat_le (edge g i 4); have h5 := toNat_le (edge g i 5)
  omega
theorem six_length (f : Nat → Nat) : (six f).length = 6 := rfl
theorem rowsOf_length (g : Nat) : (rowsOf g).length = 6 := rfl
theorem degsOf_length (g : Nat) : (degsOf g).length = 6 := rfl
theorem six_get (f : Nat → Nat) {k : Int} (h0 : 0 ≤ k) (h6 : k < 6) : (six f).getD k.toNat 0 = (f k.toNat : Int) := by
  have : k = 0 ∨ k = 1 ∨ k = 2 ∨ k = 3 ∨ k = 4 ∨ k = 5 := by omega
  rcases this with rfl | rfl | rfl | rfl | rfl | rfl <;> rfl
theorem rowsOf_mem (g : Nat) : ∀ x ∈ rowsOf g, 0 ≤ x ∧ x < 64 := by
  intro x hx
  simp only [rowsOf, six, List.mem_cons, List.not_mem_nil, or_false] at hx
  rcases hx with rfl | rfl | rfl | rfl | rfl | rfl <;> (have := rowN_lt g 0; have := rowN_lt g 1; have := rowN_lt g 2; have := rowN_lt g 3; have := rowN_lt g 4; have := rowN_lt g 5; omega)

noncomputable def upL (i j : Nat) : List (Nat × Nat) := ((List.range i).flatMap fun a => (List.range a).map fun b => (a, b)) ++ (List.range j).map fun b => (i, b)
noncomputable def upTo (g i j : Nat) : List (Nat × Nat) := (upL i j).filter fun p => !edge g p.1 p.2
theorem upL_succ (i j : Nat) : upL i (j + 1) = upL i j ++ [(i, j)] := by
  simp [upL, List.range_succ]
theorem upL_next (i : Nat) : upL (i + 1) 0 = upL i i := by
  simp [upL, List.range_succ]
theorem upTo_next (g i : Nat) : upTo g (i + 1) 0 = upTo g i i := by rw [upTo, upL_next]; rfl
theorem upTo_pos {g i j : Nat} (h : edge g i j = false) : upTo g i (j + 1) = upTo g i j ++ [(i, j)] := by
  rw [upTo, upL_succ, List.filter_append]; simp [upTo, h]
theorem upTo_neg {g i j : Nat} (h : edge g i j = true) : upTo g i (j + 1) = upTo g i j := by
  rw [upTo, upL_succ, List.filter_append]; simp [upTo, h]
theorem upTo_all (g : Nat) : upTo g 6 0 = untiedOf g := by
  rw [upTo, untiedOf, show upL 6 0 = allPairs by decide]
theorem upTo_zero (g : Nat) : upTo g 0 0 = [] := rfl

/-- nested: at the level of the rows' numbers -/
noncomputable def nestPair (ns : List Int) (band bor : Int → Int → Int) (i j : Int) : Bool :=
  let one := band (ns.getD i.toNat 0) (63 - 1 * 2 ^ j.toNat)
  let other := band (ns.getD j.toNat 0) (63 - 1 * 2 ^ i.toNat)
  bor one other == one || bor one other == other
end

section
open PySem PySem.W PySem.Calls PyProof.Rows
set_option maxRecDepth 100000

noncomputable abbrev LO : List Str := looseW vw [Str.ofString "Whitespace"]
noncomputable abbrev AR (dp un : Nat) (gd : Option (List Code)) (fr : List Env) : Around := { handled := none, depth := dp, frames := some fr, guards := gd, units := un }

structure Here (w : World) (mean : ExcName → Option Value) (mg mb : Str → Option Value) (base : Heap) (dp un : Nat) (gd : Option (List Code)) (fr : List Env) (h : Heap) : Prop where
  X : (hd81.heap_39 (World.params w)).In h
  T : Top vw LO mean mg mb h
  B : Below (AR dp un gd fr) base fr h
  hd : dp + 20 < recursionLimit
  hu : un + 400 < cLine

section
variable {prog : Program} {w : World} {A : Around} {s : Shared} {K : Frag} {p : Program} {loose : List Str} {mean : ExcName → Option Value} {mg mb : Str → Option Value} {Q E : Value → Shared → Prop}
  {name qual : Str} {params : Arguments} {body : List Stmt} {scope : Scope} {dV kV doc pm cdv ct oc : Value} {an od : Option Addr} {osl : Array (Option Value)} {f : Addr} {args : Args} {binds : List (Str × Value)}

theorem enter (X : K.In s.heap) (T : Top p loose mean mg mb s.heap)
    (ho : K.lookup f = some ⟨oc, od, .func (fnOf name qual params body scope dV kV doc pm an cdv ct), osl⟩) (hcd : codeIn K cdv qual = true) (hroom : A.depth < recursionLimit)
    (hbind : BindsTo s (fnOf name qual params body scope dV kV doc pm an cdv ct) args binds) (hloc : ∀ y ∈ binds, scope.names.lookup y.1 = some .local)
    (h : ∀ L h₁ tk, Fr s.heap L h₁ (fun y => binds.reverse.lookup y) → News s.heap L h₁ [] →
      wpAny (model prog w) (A.deeper (envOf qual scope L f cdv)) (execs body (envOf qual scope L f cdv))
        (fun fl s' => Q (match fl with | .ret v => v | _ => .none) s')
        (fun _ _ => False)
        { s with heap := h₁, toks := tk })
    (hcell : ∀ x ∈ scope.names, x.2 ≠ .cell) (hco : scope.isCoroutine = false) (hgen : scope.isGenerator = false) (hk : scope.kind = .function) :
    wpAny (model prog w) A (call (.ref f) args.pos args.kw) Q E s := by
  refine wpAny_call ?_
  refine codeAny_call_def (fd := fnOf name qual params body scope dV kV doc pm an cdv ct) (body := body) (binds := binds) hroom (X _ _ ho) rfl T.nolimit (codeRec_of X hcd) rfl hbind hcell hloc (fun h₁ hns hk₁ => ?_) hco hgen hk
  exact wpAny_mono (h s.heap.objs.size h₁ _ ⟨hns, hk₁, Nat.le_refl _⟩ News.nil) (fun fl s' hl => hl) fun _ _ y => y.elim

theorem enterC (X : K.In s.heap) (T : Top p loose mean mg mb s.heap)
    (ho : K.lookup f = some ⟨oc, od, .func (fnOf name qual params body scope dV kV doc pm an cdv ct), osl⟩) (hcd : codeIn K cdv qual = true) (hroom : A.depth < recursionLimit)
    (hbind : BindsTo s (fnOf name qual params body scope dV kV doc pm an cdv ct) args binds) (hkind : (binds.all fun y => scope.names.lookup y.1 == some .local || scope.names.lookup y.1 == some .cell) = true)
    (hnd : ((cellsFrom 0 scope.names []).map (·.1)).Nodup)
    (h : ∀ L h₁ tk cells, Fr s.heap L h₁ (bindL (envOfC qual scope L f cdv).kindOf binds fun _ => none) → News s.heap L h₁ cells →
      CellsAre (bindC (envOfC qual scope L f cdv).kindOf binds fun _ => none) (cellsFrom (L + 1) scope.names []) cells →
      wpAny (model prog w) (A.deeper (envOfC qual scope L f cdv)) (execs body (envOfC qual scope L f cdv))
        (fun fl s' => Q (match fl with | .ret v => v | _ => .none) s')
        (fun _ _ => False)
        { s with heap := h₁, toks := tk })
    (hco : scope.isCoroutine = false) (hgen : scope.isGenerator = false) (hk : scope.kind = .function) :
    wpAny (model prog w) A (call (.ref f) args.pos args.kw) Q E s := by
  refine wpAny_call ?_
  refine codeAny_call_function hroom (X _ _ ho) rfl hco hgen rfl (codeRec_of X hcd) (hbind _ _ _ _ ?_)
  refine wpAny_newFunctionEnv_cells hk (kindsX hkind _) fun env' he s' x => ?_
  subst he
  refine ⟨T.nolimit.keeps x.toInCall.keep, codeAny_func ?_⟩
  obtain ⟨h₁, tk, rfl, _⟩ := x.done
  have hk₁ := x.toInCall.keep
  obtain ⟨cells, NC, Y⟩ := Cl.news (h₀ := s.heap) (Nat.le_refl _) fun n c hm => ⟨x.cell n c (lookup_of_mem_nodup (cellsFrom_names scope.names 0 (s.heap.objs.size + 1) [] [] rfl ▸ hnd) hm), x.above n c hm⟩
  exact wpAny_mono (h s.heap.objs.size h₁ tk cells ⟨x.toInCall.ns, hk₁, Nat.le_refl _⟩ NC Y) (fun fl s' hl => hl) fun _ _ y => y.elim

end

/-- an object of the ledger: a tuple of two ints -/
noncomputable abbrev pairOf (i j : Int) (t u : Tok) (n : Nat) : Obj := { cls := .type "tuple", data := .seq #[.int i t, .int j u] n }
/-- v is a pair of ints in the heap -/
noncomputable def PairAt (h : Heap) (v : Value) (p : Nat × Nat) : Prop := ∃ a t u n, v = .ref a ∧ h.get? a = some (pairOf p.1 p.2 t u n)
noncomputable def PairsAt (h : Heap) (vs : List Value) (ps : List (Nat × Nat)) : Prop := vs.length = ps.length ∧ ∀ (i : Nat) (p : Nat × Nat), ps[i]? = some p → ∃ v, vs[i]? = some v ∧ PairAt h v p

theorem forall_snoc {α : Type} {P : α → Prop} {pre : List α} {k : α} (h : ∀ j ∈ pre, P j) (hk : P k) : ∀ j ∈ pre ++ [k], P j := by
  intro j hj
  rcases List.mem_append.mp hj with hj | hj
  · exact h j hj
  · rw [List.mem_singleton.mp hj]; exact hk
theorem mem_rk {k : Int} {n : Nat} (h0 : 0 ≤ k) (hn : k < (n : Int)) : k ∈ rangeKs 0 n := by
  unfold rangeKs
  refine List.mem_map.mpr ⟨k.toNat, List.mem_range.mpr (by omega), by omega⟩

section
variable {prog : Program} {w : World} {A : Around} {E : Value → Shared → Prop} {s : Shared} {env : Env} {h₀ : Heap} {x : Str} {body : List Stmt} {Q : Flow → Shared → Prop}
/-- a range looked through: nothing of the ledger changes -/
theorem range_look {r : Addr} {a₀ b₀ : Int} {t₀ u₀ v₀ : Tok} {n : Nat} {m₀ : Str → Option Value} {news : List (Addr × Obj)} (stored : List Str) (P : List Int → Prop)
    (hh : A.handled = none) (hr : IsRange s.heap r a₀ b₀ 1 t₀ u₀ v₀) (hsmall : Builtin.Range.small a₀ b₀ 1 = true) (hn : Builtin.Range.rangeSize a₀ b₀ 1 = (n : Int)) (F : Fr h₀ env.locals s.heap m₀) (N : News h₀ env.locals s.heap news) (hp : P [])
    (turn : ∀ (pre : List Int) (k : Int) t (u : Str → Option Value) h tk own, k = a₀ + (pre.length : Int) → pre.length < n → OwnOff own (news.map (·.1)) → P pre →
      Fr h₀ env.locals h (fun y => if y = x then some (.int k t) else if stored.contains y then u y else m₀ y) → News h₀ env.locals h (news ++ own) →
      wpAny (model prog w) A (execs body env) (InvPostN h₀ env.locals (KstS (fun _ : Unit => news) (fun _ => []) (fun _ => True) x stored m₀ (fun pre _ => P pre) (pre ++ [k])) own (news.map (·.1)) { s with heap := h, toks := tk } Q) E { s with heap := h, toks := tk })
    (done : ∀ (u : Str → Option Value) h tk, P (rangeKs a₀ n) → Fr h₀ env.locals h (fun y => if y = x then u y else if stored.contains y then u y else m₀ y) → News h₀ env.locals h news → Q .next { s with heap := h, toks := tk }) :
    wpAny (model prog w) A (pyIter (.ref r)) (fun it s₂ => LoopAtV prog w A h₀ env x body Q E it s₂) E s :=
  kst_range (σ := Unit) (fun _ => news) (fun _ => []) (fun _ => True) stored (fun pre _ => P pre) () hh hr hsmall hn F N trivial (List.forall_mem_nil _) hp
    (fun _ pre k t u h tk own e l o _ p F N => turn pre k t u h tk own e l o p F N) (fun _ u h tk _ p F N => done u h tk p F N)
end
end

local macro_rules | `(tactic| k_room) => `(tactic| first | ktr_room | (dsimp only [AR, PySem.Around.deeper, PySem.Around.in1, PySem.Around.mark]; omega))

section
open PySem PySem.W PySem.Calls PyProof.Rows
set_option maxRecDepth 100000
set_option maxHeartbeats 8000000

local macro_rules | `(tactic| l_idx) => `(tactic| first | omega | ((rename (_ ≠ _ → _ ≤ _) => h9); (have h8 := h9 (by assumption)); omega))
noncomputable abbrev tE (ns e : List Int) (v : Int) : List Int := e.set (1 * 2 ^ v.toNat : Int).toNat (Builtin.bitAnd (ns.getD (Int.toNat 5) 0) (1 * 2 ^ v.toNat))
noncomputable abbrev tS (ns : List Int) : List Int := (rangeKs 0 (5 - 0 : Int).toNat).foldl (tE ns) (List.replicate 32 0)
noncomputable def tV (ns : List Int) (p : Int) (e : List Int) (v : Int) : List Int :=
  if Builtin.bitAnd (p.fdiv (2 ^ v.toNat)) 1 ≠ 0 ∧ Builtin.bitAnd (e.getD (p - 1 * 2 ^ v.toNat).toNat 0) (ns.getD v.toNat 0) ≠ 0 then e.set p.toNat (Builtin.bitOr (e.getD p.toNat 0) (1 * 2 ^ v.toNat)) else e
noncomputable abbrev tP (ns e : List Int) (p : Int) : List Int := (rangeKs 0 (5 - 0 : Int).toNat).foldl (tV ns p) e
theorem fold_snoc {α β : Type} {f : β → α → β} {x e e' : β} {pre : List α} {k : α} (h' : e' = f e k) (h : e = pre.foldl f x) : e' = (pre ++ [k]).foldl f x := by
  rw [List.foldl_append, h', h]; rfl
theorem fold_snoc1 {α β : Type} {f : β → α → β} {x e' : β} {pre : List α} {k : α} (h' : e' = f (pre.foldl f x) k) : e' = (pre ++ [k]).foldl f x := fold_snoc h' rfl
theorem tV_pos {ns : List Int} {p : Int} {e : List Int} {v : Int} (h1 : Builtin.bitAnd (p.fdiv (2 ^ v.toNat)) 1 ≠ 0) (h2 : Builtin.bitAnd (e.getD (p - 1 * 2 ^ v.toNat).toNat 0) (ns.getD v.toNat 0) ≠ 0) :
    e.set p.toNat (Builtin.bitOr (e.getD p.toNat 0) (1 * 2 ^ v.toNat)) = tV ns p e v := by unfold tV; rw [if_pos ⟨h1, h2⟩]
theorem tV_neg1 {ns : List Int} {p : Int} {e : List Int} {v : Int} (h1 : Builtin.bitAnd (p.fdiv (2 ^ v.toNat)) 1 = 0) : e = tV ns p e v := by unfold tV; rw [if_neg fun h => h.1 h1]
theorem tV_neg2 {ns : List Int} {p : Int} {e : List Int} {v : Int} (h2 : Builtin.bitAnd (e.getD (p - 1 * 2 ^ v.toNat).toNat 0) (ns.getD v.toNat 0) = 0) : e = tV ns p e v := by unfold tV; rw [if_neg fun h => h.2 h2]
theorem tS_start {ns e : List Int} (h : e = tS ns) : e = ([] : List Int).foldl (tP ns) (tS ns) := h
theorem two_lt {v : Int} (h0 : 0 ≤ v) (h5 : v < 5) : (1 : Int) ≤ 1 * 2 ^ v.toNat ∧ (1 * 2 ^ v.toNat : Int) < 32 := by
  have : v = 0 ∨ v = 1 ∨ v = 2 ∨ v = 3 ∨ v = 4 := by omega
  rcases this with rfl | rfl | rfl | rfl | rfl <;> decide
theorem bit_le {p : Int} (hp : 1 ≤ p) (hp' : p < 32) : ∀ v : Int, 0 ≤ v → v < 5 → Builtin.bitAnd (p.fdiv (2 ^ v.toNat)) 1 ≠ 0 → 1 * 2 ^ v.toNat ≤ p := by
  intro v h0 h5 h
  have : v = 0 ∨ v = 1 ∨ v = 2 ∨ v = 3 ∨ v = 4 := by omega
  obtain ⟨q, rfl⟩ : ∃ q : Nat, p = (q : Int) := ⟨p.toNat, by omega⟩
  have hq : q < 32 := by omega
  have key : ∀ q : Fin 32, ∀ v : Fin 5, Builtin.bitAnd (Int.fdiv (q.val : Int) (2 ^ v.val)) 1 ≠ 0 → (1 * 2 ^ v.val : Int) ≤ (q.val : Int) := by decide +kernel
  have := key ⟨q, hq⟩ ⟨v.toNat, by omega⟩ h
  exact this

noncomputable def tripI (ns : List Int) : Bool := Builtin.bitAnd (((rangeKs 1 (32 - 1 : Int).toNat).foldl (tP ns) (tS ns)).getD (Int.toNat 31) 0) (ns.getD (Int.toNat 5) 0) != 0
theorem tripI_of {ns e : List Int} (h : e = (rangeKs 1 (32 - 1 : Int).toNat).foldl (tP ns) (tS ns)) : (Builtin.bitAnd (e.getD (Int.toNat 31) 0) (ns.getD (Int.toNat 5) 0) != 0) = tripI ns := by rw [h]; rfl

theorem trip_call {w : World} {mean : ExcName → Option Value} {mg mb : Str → Option Value} {base : Heap} {dp un : Nat} {gd : Option (List Code)} {fr : List Env} {s : Shared}
    {Q E : Value → Shared → Prop} {l : Addr} {vs : List Value} {ns : List Int}
    (H : Here w mean mg mb base dp un gd fr s.heap) (hl : s.heap.IsList l vs.toArray) (hi : IntsAre vs ns) (h6 : ns.length = 6) (hb : ∀ x ∈ ns, 0 ≤ x ∧ x < 64)
    (ret : ∀ h' tk', (∀ b o, s.heap.get? b = some o → h'.get? b = some o) → Q (.bool (tripI ns)) { s with heap := h', toks := tk' }) :
    wpAny (model PR w) (AR dp un gd fr) (call (.ref 189) [.ref l]) Q E s := by
  obtain ⟨X, T, B, hd, hu⟩ := H
  revert X; delta PR; k_fill; intro X
  k_with_none
  refine enter (binds := [(Str.ofString "rows", .ref l)]) (args := ⟨[.ref l], []⟩) X T (by k_is) (by k_is) (by k_room) (BindsTo.of_eq rfl) (locs rfl) ?_ (by decide) rfl rfl rfl
  intro L h₁ tk₁ F N
  try dsimp only
  k_fold
  (k_with "pyIter ref" => (k_of "passed" => (k_state (fun pre ends => ends = pre.foldl (tP ns) (tS ns) ∧ ends.length = 32) "ends"; (all_goals (try (have hpass := bit_le (p := kN) (by omega) (by omega)))))))
  (k_with "pyIter ref" => (k_of "v" => (k_state_short (fun pre ends => ends = pre.foldl (tE ns) (List.replicate 32 0) ∧ ends.length = 32) "ends"; (all_goals (try (have h2 := two_lt (v := kN) (by omega) (by omega)))))))
  (k_with "pyIter ref" => (k_of "v" => (k_state_short (fun pre ends => ends = pre.foldl (tV ns kN) (kPre.foldl (tP ns) (tS ns)) ∧ ends.length = 32) "ends"; (all_goals (try (have h2 := two_lt (v := kN) (by omega) (by omega)))); (all_goals (try (have h3 := hpass kN (by omega) (by omega)))))))
  (k_with "state" => first
    | exact And.intro (tS_start (by assumption)) (by assumption)
    | exact And.intro (fold_snoc rfl (by assumption)) (by rw [List.length_set]; assumption)
    | exact And.intro (fold_snoc1 (by assumption)) (by assumption)
    | exact And.intro (fold_snoc (tV_pos (by assumption) (by assumption)) (by assumption)) (by rw [List.length_set]; assumption)
    | exact And.intro (fold_snoc (tV_neg1 (by assumption)) (by assumption)) (by assumption)
    | exact And.intro (fold_snoc (tV_neg2 (by assumption)) (by assumption)) (by assumption)
    | exact And.intro rfl rfl
    | fail "state")
  k_steps
  show Q (Value.bool _) _
  rw [tripI_of (by assumption)]
  exact ret _ _ (by assumption : Fr s.heap L _ _).keep
end

section
open PySem PySem.W PySem.Calls PyProof.Rows
set_option maxRecDepth 100000
set_option maxHeartbeats 8000000

noncomputable abbrev nOne (ns : List Int) (i j : Int) : Int := Builtin.bitAnd (ns.getD i.toNat 0) (63 - 1 * 2 ^ j.toNat)
noncomputable abbrev nP (ns : List Int) (i j : Int) : Bool := [nOne ns i j, nOne ns j i].any fun x => x == Builtin.bitOr (nOne ns i j) (nOne ns j i)
/-- all pairs below -/
noncomputable abbrev nRow (ns : List Int) (i : Int) : Prop := ∀ j ∈ rangeKs 0 (i - 0).toNat, nP ns i j = true

theorem nested_call {w : World} {mean : ExcName → Option Value} {mg mb : Str → Option Value} {base : Heap} {dp un : Nat} {gd : Option (List Code)} {fr : List Env} {s : Shared}
    {Q E : Value → Shared → Prop} {l : Addr} {vs : List Value} {ns : List Int}
    (H : Here w mean mg mb base dp un gd fr s.heap) (hl : s.heap.IsList l vs.toArray) (hi : IntsAre vs ns) (h6 : ns.length = 6) (hb : ∀ x ∈ ns, 0 ≤ x ∧ x < 64)
    (ret : ∀ (b : Bool) h' tk', (b = true ↔ ∀ i ∈ rangeKs 0 (6 - 0 : Int).toNat, nRow ns i) → (∀ b o, s.heap.get? b = some o → h'.get? b = some o) → Q (.bool b) { s with heap := h', toks := tk' }) :
    wpAny (model PR w) (AR dp un gd fr) (call (.ref 196) [.ref l]) Q E s := by
  obtain ⟨X, T, B, hd, hu⟩ := H
  revert X; delta PR; k_fill; intro X
  k_with_none
  refine enter (binds := [(Str.ofString "rows", .ref l)]) (args := ⟨[.ref l], []⟩) X T (by k_is) (by k_is) (by k_room) (BindsTo.of_eq rfl) (locs rfl) ?_ (by decide) rfl rfl rfl
  intro L h₁ tk₁ F N
  try dsimp only
  k_fold
  (k_with "pyIter ref" => (k_of "i" => ((rename Fr _ _ _ _ => lF'); (rename News _ _ _ _ => lN'); (rename IsRange _ _ _ _ _ _ _ _ => rgX); (with_unfolding_all refine' range_look [Str.ofString "j", Str.ofString "one", Str.ofString "other"] (fun pre => ∀ i ∈ pre, nRow ns i) (by rfl) (by first | exact rgX | assumption) (by decide) (rangeSize_nat _ _) lF' lN' (List.forall_mem_nil _) ?tI ?dI); (case' tI => clear lF' lN' rgX); (case' dI => clear lF' lN' rgX); (case' tI => (intro iPre iN iT iU iH iTk iOwn iEq iLt iOff iInv iFr iNews; try k_fold)); (case' dI => (intro iU iH iTk iInv iFr iNews; try k_fold)))))
  (k_with "pyIter ref" => (k_of "j" => ((rename Fr _ _ _ _ => lF'); (rename News _ _ _ _ => lN'); (rename IsRange _ _ _ _ _ _ _ _ => rgX); (with_unfolding_all refine' range_look [Str.ofString "one", Str.ofString "other"] (fun pre => ∀ j ∈ pre, nP ns iN j = true) (by rfl) (by first | exact rgX | assumption) (by first | exact small_one (by omega) (by omega) (by omega) (by omega) | decide) (by first | exact rangeSize_nat _ _ | rfl) lF' lN' (List.forall_mem_nil _) ?tJ ?dJ); (case' tJ => clear lF' lN' rgX); (case' dJ => clear lF' lN' rgX); (case' tJ => (intro kPre kN kT kU kH kTk kOwn kEq kLt kOff kInv kFr kNews; try k_fold)); (case' dJ => (intro kU kH kTk kInv kFr kNews; try k_fold)))))
  (k_with "state" => exact forall_snoc (by assumption) (by assumption))
  k_steps
  · exact ret true _ _ ⟨fun _ => iInv, fun _ => rfl⟩ iFr.keep
  · refine ret false _ _ ⟨nofun, fun h9 => ?_⟩ (by assumption : Fr s.heap L _ _).keep
    have h8 := h9 iN (mem_rk (by omega) (by omega)) kN (mem_rk (by omega) (by omega))
    exact Bool.noConfusion (h8.symm.trans (by assumption : nP ns iN kN = false))
end

section
open PySem
theorem testBit_bits (b0 b1 b2 b3 b4 b5 : Bool) : ∀ k : Fin 6, (b0.toNat + 2 * b1.toNat + 4 * b2.toNat + 8 * b3.toNat + 16 * b4.toNat + 32 * b5.toNat).testBit k.val = [b0, b1, b2, b3, b4, b5].getD k.val false := by
  revert b0 b1 b2 b3 b4 b5; decide +kernel
theorem rowN_bit (g i : Nat) {k : Nat} (hk : k < 6) : (rowN g i).testBit k = edge g i k := by
  have h := testBit_bits (edge g i 0) (edge g i 1) (edge g i 2) (edge g i 3) (edge g i 4) (edge g i 5) ⟨k, hk⟩
  unfold rowN
  rw [h]
  have : k = 0 ∨ k = 1 ∨ k = 2 ∨ k = 3 ∨ k = 4 ∨ k = 5 := by omega
  rcases this with rfl | rfl | rfl | rfl | rfl | rfl <;> rfl
theorem high_bit {x k : Nat} (hx : x < 64) (hk : 6 ≤ k) : x.testBit k = false := Nat.testBit_lt_two_pow (Nat.lt_of_lt_of_le hx (Nat.pow_le_pow_right (n := 2) (by decide) hk : 2 ^ 6 ≤ 2 ^ k))
theorem eIdx_comm : ∀ i j : Fin 6, i ≠ j → eIdx i.val j.val = eIdx j.val i.val := by decide +kernel
theorem eIdx_inj : ∀ i j a b : Fin 6, i ≠ j → a ≠ b → (eIdx i.val j.val = eIdx a.val b.val ↔ (a = i ∧ b = j) ∨ (a = j ∧ b = i)) := by decide +kernel
theorem eIdx_lt : ∀ i j : Fin 6, i ≠ j → eIdx i.val j.val < 15 := by decide +kernel
theorem edge_comm {g i j : Nat} (hi : i < 6) (hj : j < 6) : edge g i j = edge g j i := by
  unfold edge
  by_cases h : i = j
  · subst h; rfl
  · have e := eIdx_comm ⟨i, hi⟩ ⟨j, hj⟩ (by intro q; exact h (congrArg Fin.val q))
    simp only at e
    rw [e]
    have h1 : (i != j) = true := by simpa using h
    have h2 : (j != i) = true := by simpa using Ne.symm h
    rw [h1, h2]
theorem edge_addE {g i j a b : Nat} (hi : i < 6) (hj : j < 6) (ha : a < 6) (hb : b < 6) (hij : i ≠ j) : edge (addE g i j) a b = (edge g a b || (a == i && b == j) || (a == j && b == i)) := by
  unfold edge addE
  by_cases h : a = b
  · subst h
    have h1 : (a == i && a == j) = false := by
      cases e1 : a == i <;> cases e2 : a == j <;> simp_all
    have h2 : (a == j && a == i) = false := by rw [Bool.and_comm]; exact h1
    rw [h1, h2]; simp
  · have e := eIdx_inj ⟨i, hi⟩ ⟨j, hj⟩ ⟨a, ha⟩ ⟨b, hb⟩ (by intro q; exact hij (congrArg Fin.val q)) (by intro q; exact h (congrArg Fin.val q))
    simp only [Fin.mk.injEq] at e
    have h1 : (a != b) = true := by simpa using h
    rw [h1, Nat.testBit_or, Nat.testBit_two_pow, Bool.true_and, Bool.true_and, Bool.or_assoc]
    congr 1
    rw [Bool.eq_iff_iff]
    simp only [decide_eq_true_eq, Bool.or_eq_true, Bool.and_eq_true, beq_iff_eq]
    exact e
theorem rowN_addE {g i j a : Nat} (hi : i < 6) (hj : j < 6) (ha : a < 6) (hij : i ≠ j) : rowN (addE g i j) a = rowN g a ||| ((if a = i then 2 ^ j else 0) ||| (if a = j then 2 ^ i else 0)) := by
  refine Nat.eq_of_testBit_eq fun k => ?_
  by_cases hk : k < 6
  · rw [rowN_bit _ _ hk, edge_addE hi hj ha hk hij, Nat.testBit_or, rowN_bit _ _ hk, Nat.testBit_or, Bool.or_assoc]
    congr 1
    have t : ∀ (p : Prop) [Decidable p] (m : Nat), (if p then 2 ^ m else 0 : Nat).testBit k = (decide p && decide (m = k)) := by
      intro p _ m
      by_cases hp : p <;> simp [hp, Nat.testBit_two_pow]
    rw [t, t]
    rw [Bool.eq_iff_iff]
    simp only [Bool.or_eq_true, Bool.and_eq_true, beq_iff_eq, decide_eq_true_eq]
    constructor <;> (rintro (⟨h1, h2⟩ | ⟨h1, h2⟩) <;> simp_all)
  · have h6 : 6 ≤ k := Nat.not_lt.mp hk
    rw [high_bit (rowN_lt _ _) h6, Nat.testBit_or, high_bit (rowN_lt _ _) h6, Nat.testBit_or]
    have t : ∀ (p : Prop) [Decidable p] (m : Nat), m < 6 → (if p then 2 ^ m else 0 : Nat).testBit k = false := by
      intro p _ m hm
      by_cases hp : p
      · rw [if_pos hp, Nat.testBit_two_pow]; simp; omega
      · rw [if_neg hp]; exact Nat.zero_testBit _
    rw [t _ _ hj, t _ _ hi]; rfl

-- the rows' numbers in the model's words
theorem or6 : ∀ (x : Fin 64) (j : Fin 6), Builtin.bitOr (x.val : Int) (1 * 2 ^ j.val) = ((x.val ||| 2 ^ j.val : Nat) : Int) := by decide +kernel
theorem or6' {x : Nat} {j : Int} (hx : x < 64) (h0 : 0 ≤ j) (h6 : j < 6) : Builtin.bitOr (x : Int) (1 * 2 ^ j.toNat) = ((x ||| 2 ^ j.toNat : Nat) : Int) := or6 ⟨x, hx⟩ ⟨j.toNat, by omega⟩
theorem bit6 : ∀ (x : Fin 64) (j : Fin 6), Builtin.bitAnd (Int.fdiv (x.val : Int) (2 ^ j.val)) 1 = ((x.val.testBit j.val).toNat : Int) := by decide +kernel
theorem bit6' {x : Nat} {j : Int} (hx : x < 64) (h0 : 0 ≤ j) (h6 : j < 6) : Builtin.bitAnd (Int.fdiv (x : Int) (2 ^ j.toNat)) 1 = ((x.testBit j.toNat).toNat : Int) := bit6 ⟨x, hx⟩ ⟨j.toNat, by omega⟩
theorem or_lt {x j : Nat} (hx : x < 64) (hj : j < 6) : x ||| 2 ^ j < 64 := by
  have : (2 ^ j : Nat) < 2 ^ 6 := Nat.pow_lt_pow_right (by decide) hj
  exact Nat.or_lt_two_pow (n := 6) hx this
theorem six_set (f : Nat → Nat) {k : Nat} (hk : k < 6) (v : Nat) : (six f).set k (v : Int) = six fun m => if m = k then v else f m := by
  have : k = 0 ∨ k = 1 ∨ k = 2 ∨ k = 3 ∨ k = 4 ∨ k = 5 := by omega
  rcases this with rfl | rfl | rfl | rfl | rfl | rfl <;> rfl
theorem six_congr {f f' : Nat → Nat} (h : ∀ k, k < 6 → f k = f' k) : six f = six f' := by
  unfold six
  rw [h 0 (by decide), h 1 (by decide), h 2 (by decide), h 3 (by decide), h 4 (by decide), h 5 (by decide)]
/-- both rows' bits laid -/
theorem rows_add {g : Nat} {i j : Int} (h0 : 0 ≤ j) (hj : j < i) (hi : i < 6) :
    ((rowsOf g).set i.toNat (Builtin.bitOr ((rowsOf g).getD i.toNat 0) (1 * 2 ^ j.toNat))).set j.toNat
      (Builtin.bitOr (((rowsOf g).set i.toNat (Builtin.bitOr ((rowsOf g).getD i.toNat 0) (1 * 2 ^ j.toNat))).getD j.toNat 0) (1 * 2 ^ i.toNat)) = rowsOf (addE g i.toNat j.toNat) := by
  have hI : i.toNat < 6 := by omega
  have hJ : j.toNat < 6 := by omega
  have hne : i.toNat ≠ j.toNat := by omega
  unfold rowsOf
  rw [six_get _ (by omega) hi, or6' (rowN_lt g i.toNat) h0 (by omega), six_set _ hI, six_get _ h0 (by omega)]
  rw [if_neg (Ne.symm hne), or6' (rowN_lt g j.toNat) (by omega) hi, six_set _ hJ]
  refine six_congr fun k hk => ?_
  rw [rowN_addE hI hJ hk hne]
  by_cases h1 : k = j.toNat
  · subst h1; simp [Ne.symm hne]
  · by_cases h2 : k = i.toNat
    · subst h2; simp [h1]
    · simp [h1, h2]
theorem rows_bit {g : Nat} {i j : Int} (h0 : 0 ≤ j) (hj : j < 6) (hi0 : 0 ≤ i) (hi : i < 6) : Builtin.bitAnd (Int.fdiv ((rowsOf g).getD i.toNat 0) (2 ^ j.toNat)) 1 = ((edge g i.toNat j.toNat).toNat : Int) := by
  unfold rowsOf
  rw [six_get _ hi0 hi, bit6' (rowN_lt g _) h0 hj, rowN_bit _ _ (by omega)]
theorem rows_zero : List.replicate 6 (0 : Int) = rowsOf 0 := by decide +kernel

noncomputable def delE (g : Nat) (p : Nat × Nat) : Nat := g ^^^ 2 ^ eIdx p.1 p.2
noncomputable def hit (i j a b : Nat) : Bool := (a == i && b == j) || (a == j && b == i)
theorem bit_hit {i j a b : Nat} (hi : i < 6) (hj : j < 6) (ha : a < 6) (hb : b < 6) (hij : i ≠ j) (hab : a ≠ b) : decide (eIdx i j = eIdx a b) = hit i j a b := by
  have e := eIdx_inj ⟨i, hi⟩ ⟨j, hj⟩ ⟨a, ha⟩ ⟨b, hb⟩ (by intro q; exact hij (congrArg Fin.val q)) (by intro q; exact hab (congrArg Fin.val q))
  simp only [Fin.mk.injEq] at e
  rw [Bool.eq_iff_iff]
  simp only [hit, decide_eq_true_eq, Bool.or_eq_true, Bool.and_eq_true, beq_iff_eq]
  exact e
theorem hit_self {i j a : Nat} (hij : i ≠ j) : hit i j a a = false := by
  unfold hit
  cases e1 : a == i <;> cases e2 : a == j <;> simp_all
theorem edge_delE {g i j a b : Nat} (hi : i < 6) (hj : j < 6) (ha : a < 6) (hb : b < 6) (hij : i ≠ j) (he : edge g i j = true) : edge (delE g (i, j)) a b = (edge g a b && !hit i j a b) := by
  by_cases h : a = b
  · subst h; simp [edge]
  · have h1 : (a != b) = true := by simpa using h
    have h2 : g.testBit (eIdx i j) = true := by
      unfold edge at he; simpa using (Bool.and_eq_true_iff.mp he).2
    unfold edge delE
    rw [h1, Nat.testBit_xor, Nat.testBit_two_pow, Bool.true_and, Bool.true_and, bit_hit hi hj ha hb hij h]
    cases e : hit i j a b
    · simp
    · rw [← bit_hit hi hj ha hb hij h] at e
      have e' := of_decide_eq_true e
      rw [← e', h2]; rfl
theorem rowN_congr {g g' i : Nat} (h : ∀ k, k < 6 → edge g i k = edge g' i k) : rowN g i = rowN g' i := by
  unfold rowN
  rw [h 0 (by decide), h 1 (by decide), h 2 (by decide), h 3 (by decide), h 4 (by decide), h 5 (by decide)]
theorem deg_congr {g g' i : Nat} (h : ∀ k, k < 6 → edge g i k = edge g' i k) : deg g i = deg g' i := by
  unfold deg
  rw [h 0 (by decide), h 1 (by decide), h 2 (by decide), h 3 (by decide), h 4 (by decide), h 5 (by decide)]
theorem rowsOf_congr {g g' : Nat} (h : ∀ i k, i < 6 → k < 6 → edge g i k = edge g' i k) : rowsOf g = rowsOf g' := six_congr fun i hi => rowN_congr fun k hk => h i k hi hk
theorem sub6 : ∀ (x : Fin 64) (j : Fin 6), x.val.testBit j.val = true → (x.val : Int) - 1 * 2 ^ j.val = ((x.val ^^^ 2 ^ j.val : Nat) : Int) := by decide +kernel
theorem xor_bit {x j k : Nat} : (x ^^^ 2 ^ j).testBit k = (x.testBit k != decide (j = k)) := by
  rw [Nat.testBit_xor, Nat.testBit_two_pow]
theorem rowN_delE {g i j : Nat} (hi : i < 6) (hj : j < 6) (hij : i ≠ j) (he : edge g i j = true) : rowN (delE g (i, j)) i = rowN g i ^^^ 2 ^ j := by
  refine Nat.eq_of_testBit_eq fun k => ?_
  rw [xor_bit]
  by_cases hk : k < 6
  · rw [rowN_bit _ _ hk, rowN_bit _ _ hk, edge_delE hi hj hi hk hij he]
    have : hit i j i k = decide (j = k) := by
      unfold hit
      rw [Bool.eq_iff_iff]
      simp only [Bool.or_eq_true, Bool.and_eq_true, beq_iff_eq, decide_eq_true_eq]
      constructor
      · rintro (⟨_, h⟩ | ⟨h, _⟩)
        · exact h.symm
        · exact absurd h hij
      · intro h; exact .inl ⟨by trivial, h.symm⟩
    rw [this]
    by_cases q : j = k
    · subst q; rw [he]; simp
    · simp [q]
  · have h6 : 6 ≤ k := Nat.not_lt.mp hk
    rw [high_bit (rowN_lt _ _) h6, high_bit (rowN_lt _ _) h6]
    have : ¬ j = k := by omega
    simp [this]
theorem rowN_delE' {g i j : Nat} (hi : i < 6) (hj : j < 6) (hij : i ≠ j) (he : edge g i j = true) : rowN (delE g (i, j)) j = rowN g j ^^^ 2 ^ i := by
  have e : eIdx i j = eIdx j i := eIdx_comm ⟨i, hi⟩ ⟨j, hj⟩ (by intro q; exact hij (congrArg Fin.val q))
  have : delE g (i, j) = delE g (j, i) := by unfold delE; rw [e]
  rw [this]
  exact rowN_delE hj hi (Ne.symm hij) (by rw [edge_comm hj hi]; exact he)
theorem rowN_delE0 {g i j a : Nat} (hi : i < 6) (hj : j < 6) (ha : a < 6) (hij : i ≠ j) (he : edge g i j = true) (h1 : a ≠ i) (h2 : a ≠ j) : rowN (delE g (i, j)) a = rowN g a := by
  refine rowN_congr fun k hk => ?_
  rw [edge_delE hi hj ha hk hij he]
  have : hit i j a k = false := by unfold hit; simp [h1, h2]
  rw [this]; simp
theorem rows_del {g : Nat} {i j : Nat} (hj : j < i) (hi : i < 6) (he : edge g i j = true) :
    ((rowsOf g).set (i : Int).toNat ((rowsOf g).getD (i : Int).toNat 0 - 1 * 2 ^ (j : Int).toNat)).set (j : Int).toNat
      (((rowsOf g).set (i : Int).toNat ((rowsOf g).getD (i : Int).toNat 0 - 1 * 2 ^ (j : Int).toNat)).getD (j : Int).toNat 0 - 1 * 2 ^ (i : Int).toNat) = rowsOf (delE g (i, j)) := by
  have hJ : j < 6 := by omega
  have hne : i ≠ j := by omega
  have he' : edge g j i = true := by rw [edge_comm hJ hi]; exact he
  unfold rowsOf
  rw [six_get _ (by omega) (by omega)]
  simp only [Int.toNat_natCast]
  rw [sub6 ⟨rowN g i, rowN_lt g i⟩ ⟨j, hJ⟩ (by rw [rowN_bit _ _ hJ]; exact he), six_set _ hi]
  have e1 : (six fun m => if m = i then rowN g i ^^^ 2 ^ j else rowN g m).getD j 0 = ((rowN g j : Nat) : Int) := by
    have := six_get (fun m => if m = i then rowN g i ^^^ 2 ^ j else rowN g m) (k := (j : Int)) (by omega) (by omega)
    simp only [Int.toNat_natCast] at this
    rw [this, if_neg (Ne.symm hne)]
  rw [e1, sub6 ⟨rowN g j, rowN_lt g j⟩ ⟨i, hi⟩ (by rw [rowN_bit _ _ hi]; exact he'), six_set _ hJ]
  refine six_congr fun k hk => ?_
  by_cases h1 : k = j
  · subst h1; rw [if_pos rfl, rowN_delE' hi hJ hne he]
  · rw [if_neg h1]
    by_cases h2 : k = i
    · subst h2; rw [if_pos rfl, rowN_delE hi hJ hne he]
    · rw [if_neg h2, rowN_delE0 hi hJ hk hne he h2 h1]
theorem edge_full : ∀ a b : Fin 6, edge 32767 a.val b.val = (a.val != b.val) := by decide +kernel
theorem allPairs_lt : ∀ p ∈ allPairs, p.2 < p.1 ∧ p.1 < 6 := by decide
theorem allPairs_nodup : allPairs.Nodup := by decide
theorem mem_allPairs {a b : Nat} (h : b < a) (ha : a < 6) : (a, b) ∈ allPairs := by
  have : ∀ a b : Fin 6, b.val < a.val → (a.val, b.val) ∈ allPairs := by decide
  exact this ⟨a, ha⟩ ⟨b, by omega⟩ h
theorem untied_lt {g : Nat} {p : Nat × Nat} (h : p ∈ untiedOf g) : p.2 < p.1 ∧ p.1 < 6 ∧ edge g p.1 p.2 = false := by
  have := List.mem_filter.mp h
  exact ⟨(allPairs_lt p this.1).1, (allPairs_lt p this.1).2, by simpa using this.2⟩
theorem mem_untied {g a b : Nat} (h : b < a) (ha : a < 6) (he : edge g a b = false) : (a, b) ∈ untiedOf g := List.mem_filter.mpr ⟨mem_allPairs h ha, by simpa using he⟩
theorem untied_nodup (g : Nat) : (untiedOf g).Nodup := allPairs_nodup.filter _
/-- the pairs taken off one by one -/
theorem edge_foldl (ps : List (Nat × Nat)) : ∀ (g : Nat), ps.Nodup → (∀ p ∈ ps, p.2 < p.1 ∧ p.1 < 6 ∧ edge g p.1 p.2 = true) → ∀ a b, a < 6 → b < 6 → edge (ps.foldl delE g) a b = (edge g a b && ps.all fun p => !hit p.1 p.2 a b) := by
  induction ps with
  | nil => intro g _ _ a b _ _; simp
  | cons p r ih =>
    intro g hn hp a b ha hb
    obtain ⟨i, j⟩ := p
    have h0 := hp (i, j) (List.Mem.head _)
    simp only at h0
    have hne : i ≠ j := by omega
    rw [List.foldl_cons, ih (delE g (i, j)) (List.nodup_cons.mp hn).2 ?_ a b ha hb, edge_delE h0.2.1 (by omega) ha hb hne h0.2.2, List.all_cons, Bool.and_assoc]
    intro q hq
    have hq' := hp q (List.Mem.tail _ hq)
    refine ⟨hq'.1, hq'.2.1, ?_⟩
    rw [edge_delE h0.2.1 (by omega) hq'.2.1 (by omega) hne h0.2.2, hq'.2.2]
    have : hit i j q.1 q.2 = false := by
      cases e : hit i j q.1 q.2
      · rfl
      · exfalso
        unfold hit at e
        simp only [Bool.or_eq_true, Bool.and_eq_true, beq_iff_eq] at e
        rcases e with ⟨e1, e2⟩ | ⟨e1, e2⟩
        · exact (List.nodup_cons.mp hn).1 (by rw [← e1, ← e2]; exact hq)
        · omega
    rw [this]; rfl
theorem joined_all (g : Nat) : rowsOf ((untiedOf g).foldl delE 32767) = rowsOf g := by
  refine rowsOf_congr fun a b ha hb => ?_
  rw [edge_foldl _ _ (untied_nodup g) (fun p hp => ⟨(untied_lt hp).1, (untied_lt hp).2.1, by
    have h := untied_lt hp
    have := edge_full ⟨p.1, h.2.1⟩ ⟨p.2, by omega⟩
    rw [this]; simp; omega⟩) a b ha hb, edge_full ⟨a, ha⟩ ⟨b, hb⟩]
  by_cases h : a = b
  · subst h; simp [edge]
  · have h1 : (a != b) = true := by simpa using h
    rw [h1, Bool.true_and]
    rw [Bool.eq_iff_iff, List.all_eq_true]
    constructor
    · intro q
      cases e : edge g a b
      · exfalso
        rcases Nat.lt_or_gt_of_ne h with hlt | hlt
        · have := q (b, a) (mem_untied hlt hb (by rw [edge_comm hb ha]; exact e))
          simp [hit] at this
        · have := q (a, b) (mem_untied hlt ha e)
          simp [hit] at this
      · rfl
    · intro e p hp
      have hu := untied_lt hp
      cases e' : hit p.1 p.2 a b
      · rfl
      · exfalso
        unfold hit at e'
        simp only [Bool.or_eq_true, Bool.and_eq_true, beq_iff_eq] at e'
        rcases e' with ⟨e1, e2⟩ | ⟨e1, e2⟩
        · rw [e1, e2, hu.2.2] at e; cases e
        · rw [edge_comm ha hb, e1, e2, hu.2.2] at e; cases e
theorem joined_mid {g i : Nat} {p : Nat × Nat} (h : (untiedOf g)[i]? = some p) : edge (((untiedOf g).take i).foldl delE 32767) p.1 p.2 = true := by
  have hm := List.mem_of_getElem? h
  have hu := untied_lt hm
  have hn := untied_nodup g
  rw [edge_foldl _ _ (hn.sublist (List.take_sublist _ _)) (fun q hq => by
    have h' := untied_lt (List.mem_of_mem_take hq)
    have := edge_full ⟨q.1, h'.2.1⟩ ⟨q.2, by omega⟩
    exact ⟨h'.1, h'.2.1, by rw [this]; simp; omega⟩) _ _ hu.2.1 (by omega), edge_full ⟨p.1, hu.2.1⟩ ⟨p.2, by omega⟩]
  have h1 : (p.1 != p.2) = true := by simp; omega
  rw [h1, Bool.true_and, List.all_eq_true]
  intro q hq
  have h' := untied_lt (List.mem_of_mem_take hq)
  cases e' : hit q.1 q.2 p.1 p.2
  · rfl
  · exfalso
    unfold hit at e'
    simp only [Bool.or_eq_true, Bool.and_eq_true, beq_iff_eq] at e'
    rcases e' with ⟨e1, e2⟩ | ⟨e1, e2⟩
    · have e : q = p := Prod.ext e1.symm e2.symm
      subst e
      obtain ⟨k, hk, hk'⟩ := List.mem_take_iff_getElem.mp hq
      have hi := (List.getElem?_eq_some_iff.mp h)
      obtain ⟨hi1, hi2⟩ := hi
      have : k = i := (List.getElem_inj hn).mp (hk'.trans hi2.symm)
      omega
    · omega
end

section
open PySem
noncomputable def pop (x : Nat) : Nat := (x.testBit 0).toNat + (x.testBit 1).toNat + (x.testBit 2).toNat + (x.testBit 3).toNat + (x.testBit 4).toNat + (x.testBit 5).toNat
theorem deg_pop (g i : Nat) : deg g i = pop (rowN g i) := by
  unfold deg pop
  rw [rowN_bit _ _ (by decide), rowN_bit _ _ (by decide), rowN_bit _ _ (by decide), rowN_bit _ _ (by decide), rowN_bit _ _ (by decide), rowN_bit _ _ (by decide)]
theorem pop_or : ∀ (x : Fin 64) (j : Fin 6), x.val.testBit j.val = false → pop (x.val ||| 2 ^ j.val) = pop x.val + 1 := by decide +kernel
theorem pop_le : ∀ x : Fin 64, pop x.val ≤ 6 := by decide +kernel
theorem deg_le6 (g i : Nat) : deg g i ≤ 6 := by rw [deg_pop]; exact pop_le ⟨_, rowN_lt g i⟩
theorem deg_addE {g i j a : Nat} (hi : i < 6) (hj : j < 6) (ha : a < 6) (hij : i ≠ j) (he : edge g i j = false) : deg (addE g i j) a = deg g a + (if a = i ∨ a = j then 1 else 0) := by
  have he' : edge g j i = false := by rw [edge_comm hj hi]; exact he
  rw [deg_pop, deg_pop, rowN_addE hi hj ha hij]
  by_cases h1 : a = i
  · subst h1
    rw [if_pos rfl, if_neg hij, if_pos (.inl rfl), Nat.or_zero]
    exact pop_or ⟨_, rowN_lt g a⟩ ⟨j, hj⟩ (by rw [rowN_bit _ _ hj]; exact he)
  · by_cases h2 : a = j
    · subst h2
      rw [if_neg h1, if_pos rfl, if_pos (.inr rfl), Nat.zero_or]
      exact pop_or ⟨_, rowN_lt g a⟩ ⟨i, hi⟩ (by rw [rowN_bit _ _ hi]; exact he')
    · rw [if_neg h1, if_neg h2, if_neg (by rintro (q | q); exact h1 q; exact h2 q)]
      simp
theorem degs_add {g i j : Nat} (hj : j < i) (hi : i < 6) (he : edge g i j = false) :
    ((degsOf g).set (i : Int).toNat ((degsOf g).getD (i : Int).toNat 0 + 1)).set (j : Int).toNat (((degsOf g).set (i : Int).toNat ((degsOf g).getD (i : Int).toNat 0 + 1)).getD (j : Int).toNat 0 + 1) = degsOf (addE g i j) := by
  have hJ : j < 6 := by omega
  have hne : i ≠ j := by omega
  unfold degsOf
  rw [six_get _ (by omega) (by omega)]
  simp only [Int.toNat_natCast]
  rw [show ((deg g i : Nat) : Int) + 1 = ((deg g i + 1 : Nat) : Int) by omega, six_set _ hi]
  have e1 : (six fun m => if m = i then deg g i + 1 else deg g m).getD j 0 = ((deg g j : Nat) : Int) := by
    have := six_get (fun m => if m = i then deg g i + 1 else deg g m) (k := (j : Int)) (by omega) (by omega)
    simp only [Int.toNat_natCast] at this
    rw [this, if_neg (Ne.symm hne)]
  rw [e1, show ((deg g j : Nat) : Int) + 1 = ((deg g j + 1 : Nat) : Int) by omega, six_set _ hJ]
  refine six_congr fun k hk => ?_
  rw [deg_addE hi hJ hk hne he]
  by_cases h1 : k = j
  · subst h1; simp
  · by_cases h2 : k = i
    · subst h2; simp [h1]
    · simp [h1, h2]

/-- one tie more: an untied pair with six ties or more -/
noncomputable def Step (g i j : Nat) : Prop := j < i ∧ i < 6 ∧ edge g i j = false ∧ 6 ≤ deg g i + deg g j
inductive Reach (g : Nat) : Nat → Prop
  | refl : Reach g g
  | step {g' i j : Nat} : Reach g g' → Step g' i j → Reach g (addE g' i j)
noncomputable def Closed (g : Nat) : Prop := ∀ i j, ¬ Step g i j
noncomputable def degSum (g : Nat) : Nat := deg g 0 + deg g 1 + deg g 2 + deg g 3 + deg g 4 + deg g 5
theorem degSum_le (g : Nat) : degSum g ≤ 36 := by
  unfold degSum
  have := deg_le6 g 0; have := deg_le6 g 1; have := deg_le6 g 2; have := deg_le6 g 3; have := deg_le6 g 4; have := deg_le6 g 5
  omega
noncomputable abbrev at01 (i j a : Nat) : Nat := if a = i ∨ a = j then 1 else 0
theorem at_sum : ∀ i j : Fin 6, j.val < i.val → at01 i j 0 + at01 i j 1 + at01 i j 2 + at01 i j 3 + at01 i j 4 + at01 i j 5 = 2 := by decide +kernel
theorem at_pow : ∀ i j : Fin 6, j.val < i.val → at01 i j 0 + 16 * at01 i j 1 + 256 * at01 i j 2 + 4096 * at01 i j 3 + 65536 * at01 i j 4 + 1048576 * at01 i j 5 = 16 ^ i.val + 16 ^ j.val := by decide +kernel
theorem lin2 {a b c d e f A B C D E F : Nat} (h : A + B + C + D + E + F = 2) : a + b + c + d + e + f < (a + A) + (b + B) + (c + C) + (d + D) + (e + E) + (f + F) := by omega
theorem linP {a b c d e f A B C D E F x y : Nat} (h : A + 16 * B + 256 * C + 4096 * D + 65536 * E + 1048576 * F = x + y) :
    (a + A) + 16 * (b + B) + 256 * (c + C) + 4096 * (d + D) + 65536 * (e + E) + 1048576 * (f + F) = a + 16 * b + 256 * c + 4096 * d + 65536 * e + 1048576 * f + x + y := by omega
theorem degSum_step {g i j : Nat} (h : Step g i j) : degSum g < degSum (addE g i j) := by
  obtain ⟨h1, h2, h3, _⟩ := h
  have hj : j < 6 := Nat.lt_trans h1 h2
  have hne : i ≠ j := Nat.ne_of_gt h1
  unfold degSum
  rw [deg_addE h2 hj (by decide) hne h3, deg_addE h2 hj (by decide) hne h3, deg_addE h2 hj (by decide) hne h3, deg_addE h2 hj (by decide) hne h3, deg_addE h2 hj (by decide) hne h3, deg_addE h2 hj (by decide) hne h3]
  exact lin2 (at_sum ⟨i, h2⟩ ⟨j, hj⟩ h1)
theorem degs_sum (g : Nat) : (degsOf g).sum = (degSum g : Int) := by
  simp [degsOf, six, degSum]; omega
theorem edge_addE' {g i j a b : Nat} (hi : i < 6) (hj : j < 6) (ha : a < 6) (hb : b < 6) (hij : i ≠ j) : edge (addE g i j) a b = (edge g a b || hit i j a b) := by
  rw [edge_addE hi hj ha hb hij]; unfold hit; rw [Bool.or_assoc]
/-- the closure is one: what is reached lies in every closed net above -/
noncomputable def Sub (g g' : Nat) : Prop := ∀ a b, a < 6 → b < 6 → edge g a b = true → edge g' a b = true
theorem deg_mono {g g' a : Nat} (h : Sub g g') (ha : a < 6) : deg g a ≤ deg g' a := by
  have key : ∀ b, b < 6 → (edge g a b).toNat ≤ (edge g' a b).toNat := fun b hb => by
    cases e : edge g a b
    · exact Nat.zero_le _
    · rw [h a b ha hb e]; exact Nat.le_refl _
  unfold deg
  have := key 0 (by decide); have := key 1 (by decide); have := key 2 (by decide); have := key 3 (by decide); have := key 4 (by decide); have := key 5 (by decide)
  omega
theorem reach_sub {g g' : Nat} (h : Reach g g') : Sub g g' := by
  induction h with
  | refl => exact fun _ _ _ _ e => e
  | step _ hs ih =>
    intro a b ha hb e
    rw [edge_addE' hs.2.1 (by have := hs.1; have := hs.2.1; omega) ha hb (by have := hs.1; omega), ih a b ha hb e]
    rfl
theorem reach_in {g g' c : Nat} (h : Reach g g') (hc : Closed c) (hg : Sub g c) : Sub g' c := by
  induction h with
  | refl => exact hg
  | @step g' i j _ hs ih =>
    intro a b ha hb e
    have hj : j < 6 := by have := hs.1; have := hs.2.1; omega
    rw [edge_addE' hs.2.1 hj ha hb (by have := hs.1; omega)] at e
    rcases Bool.or_eq_true_iff.mp e with e | e
    · exact ih a b ha hb e
    · have hcij : edge c i j = true := by
        cases q : edge c i j
        · exfalso
          refine hc i j ⟨hs.1, hs.2.1, q, ?_⟩
          have h1 := deg_mono ih hs.2.1
          have h2 := deg_mono ih hj
          have := hs.2.2.2
          omega
        · rfl
      unfold hit at e
      simp only [Bool.or_eq_true, Bool.and_eq_true, beq_iff_eq] at e
      rcases e with ⟨rfl, rfl⟩ | ⟨rfl, rfl⟩
      · exact hcij
      · rw [edge_comm ha hb]; exact hcij
theorem closure_one {g g1 g2 : Nat} (h1 : Reach g g1) (c1 : Closed g1) (h2 : Reach g g2) (c2 : Closed g2) : ∀ a b, a < 6 → b < 6 → edge g1 a b = edge g2 a b := by
  have s12 := reach_in h1 c2 (reach_sub h2)
  have s21 := reach_in h2 c1 (reach_sub h1)
  intro a b ha hb
  cases e : edge g1 a b
  · cases e' : edge g2 a b
    · rfl
    · rw [s21 a b ha hb e'] at e; cases e
  · exact (s12 a b ha hb e).symm
end

section
open PySem PySem.W PySem.Calls PyProof.Rows
set_option maxRecDepth 100000
/-! bit formulas: their value at one net, and at all nets of fifteen bits at once -/
inductive BX where
  | v (i : Nat) | t | f | and (a b : BX) | or (a b : BX) | not (a : BX)
noncomputable def evB (x : Nat → Bool) : BX → Bool
  | .v i => x i
  | .t => true
  | .f => false
  | .and a b => evB x a && evB x b
  | .or a b => evB x a || evB x b
  | .not a => !evB x a
noncomputable def evN (F : Nat) (T : Nat → Nat) : BX → Nat
  | .v i => T i
  | .t => F
  | .f => 0
  | .and a b => Nat.land (evN F T a) (evN F T b)
  | .or a b => Nat.lor (evN F T a) (evN F T b)
  | .not a => Nat.xor F (evN F T a)
theorem ev_bit {F k : Nat} {T : Nat → Nat} {x : Nat → Bool} (hF : F.testBit k = true) (hT : ∀ i, (T i).testBit k = x i) : ∀ e, (evN F T e).testBit k = evB x e
  | .v i => hT i
  | .t => hF
  | .f => Nat.zero_testBit k
  | .and a b => by
    show (evN F T a &&& evN F T b).testBit k = _
    rw [Nat.testBit_and, ev_bit hF hT a, ev_bit hF hT b]; rfl
  | .or a b => by
    show (evN F T a ||| evN F T b).testBit k = _
    rw [Nat.testBit_or, ev_bit hF hT a, ev_bit hF hT b]; rfl
  | .not a => by
    show (F ^^^ evN F T a).testBit k = _
    rw [Nat.testBit_xor, ev_bit hF hT a, hF, Bool.true_xor]; rfl
noncomputable def fullT (n : Nat) : Nat := 2 ^ (2 ^ n) - 1
noncomputable def tabT : Nat → Nat → Nat
  | 0, _ => 0
  | n + 1, i => if i = n then Nat.shiftLeft (fullT n) (2 ^ n) else Nat.lor (tabT n i) (Nat.shiftLeft (tabT n i) (2 ^ n))
theorem tab_lt : ∀ n i, tabT n i < 2 ^ (2 ^ n)
  | 0, _ => by unfold tabT; decide
  | n + 1, i => by
    have e : 2 ^ (2 ^ (n + 1)) = 2 ^ (2 ^ n) * 2 ^ (2 ^ n) := by rw [← Nat.pow_add, Nat.pow_succ, Nat.mul_two]
    have hp : 0 < 2 ^ (2 ^ n) := Nat.pow_pos (by decide)
    unfold tabT
    split
    · show fullT n <<< 2 ^ n < _
      rw [Nat.shiftLeft_eq, e]
      exact Nat.mul_lt_mul_of_pos_right (by unfold fullT; omega) hp
    · show tabT n i ||| tabT n i <<< 2 ^ n < _
      refine Nat.or_lt_two_pow (Nat.lt_of_lt_of_le (tab_lt n i) (by rw [e]; exact Nat.le_mul_of_pos_right _ hp)) ?_
      rw [Nat.shiftLeft_eq, e]
      exact Nat.mul_lt_mul_of_pos_right (tab_lt n i) hp
theorem tab_bit : ∀ n k i, k < 2 ^ n → (tabT n i).testBit k = k.testBit i
  | 0, k, i, h => by
    have : k = 0 := by simpa using h
    subst this
    simp [tabT]
  | n + 1, k, i, h => by
    have e : 2 ^ (n + 1) = 2 ^ n + 2 ^ n := by rw [Nat.pow_succ, Nat.mul_two]
    rw [e] at h
    unfold tabT
    by_cases hk : k < 2 ^ n
    · split
      · next hi =>
        subst hi
        show (fullT i <<< 2 ^ i).testBit k = _
        rw [Nat.testBit_shiftLeft, Nat.testBit_lt_two_pow hk, decide_eq_false (by omega : ¬ k ≥ 2 ^ i)]; rfl
      · show (tabT n i ||| tabT n i <<< 2 ^ n).testBit k = _
        rw [Nat.testBit_or, Nat.testBit_shiftLeft, tab_bit n k i hk, decide_eq_false (by omega : ¬ k ≥ 2 ^ n)]; simp
    · obtain ⟨y, rfl⟩ : ∃ y, k = 2 ^ n + y := ⟨k - 2 ^ n, by omega⟩
      have hy : y < 2 ^ n := by omega
      split
      · next hi =>
        subst hi
        show (fullT i <<< 2 ^ i).testBit _ = _
        rw [Nat.testBit_shiftLeft, Nat.testBit_two_pow_add_eq, Nat.testBit_lt_two_pow hy, fullT, Nat.testBit_two_pow_sub_one]
        simp [hy]
      · next hi =>
        show (tabT n i ||| tabT n i <<< 2 ^ n).testBit _ = _
        rw [Nat.testBit_or, Nat.testBit_shiftLeft, Nat.testBit_lt_two_pow (Nat.lt_of_lt_of_le (tab_lt n i) (Nat.pow_le_pow_right (by decide) (by omega)))]
        rw [Nat.add_sub_cancel_left, tab_bit n y i hy]
        by_cases h2 : i < n
        · rw [Nat.testBit_two_pow_add_gt h2]; simp
        · have h3 : 2 ^ (n + 1) ≤ 2 ^ i := Nat.pow_le_pow_right (by decide) (by omega)
          rw [Nat.testBit_lt_two_pow (x := 2 ^ n + y) (by omega), Nat.testBit_lt_two_pow (x := y) (by omega)]; simp
theorem full_bit {n k : Nat} (h : k < 2 ^ n) : (fullT n).testBit k = true := by
  unfold fullT; rw [Nat.testBit_two_pow_sub_one]; simpa using h
/-- the fifteen bits of a net -/
noncomputable def bitsOf (g : Nat) (i : Nat) : Bool := (g % 2 ^ 15).testBit i
theorem all_nets {e : BX} (h : evN (fullT 15) (tabT 15) e = fullT 15) (g : Nat) : evB (bitsOf g) e = true := by
  have hk : g % 2 ^ 15 < 2 ^ 15 := Nat.mod_lt _ (by decide)
  have := ev_bit (x := bitsOf g) (full_bit hk) (fun i => tab_bit 15 _ i hk) e
  rw [← this, h]; exact full_bit hk
end

section
open PySem PySem.W PySem.Calls PyProof.Rows
set_option maxRecDepth 100000
/-! the nets' properties as bit formulas -/
noncomputable def eX (i j : Nat) : BX := if i = j then .f else .v (eIdx i j)
theorem eX_ev {g i j : Nat} (hi : i < 6) (hj : j < 6) : evB (bitsOf g) (eX i j) = edge g i j := by
  unfold eX edge
  by_cases h : i = j
  · subst h; simp [evB]
  · rw [if_neg h]
    have h1 : (i != j) = true := by simpa using h
    rw [h1, Bool.true_and]
    show (g % 2 ^ 15).testBit _ = _
    rw [Nat.testBit_mod_two_pow, decide_eq_true (eIdx_lt ⟨i, hi⟩ ⟨j, hj⟩ (fun q => h (congrArg Fin.val q))), Bool.true_and]
/-- at least k of these -/
noncomputable def thr : Nat → List BX → BX
  | 0, _ => .t
  | _ + 1, [] => .f
  | k + 1, b :: bs => .or (.and b (thr k bs)) (thr (k + 1) bs)
noncomputable def cnt (x : Nat → Bool) (bs : List BX) : Nat := (bs.map fun b => (evB x b).toNat).sum
theorem thr_ev {x : Nat → Bool} : ∀ (k : Nat) (bs : List BX), evB x (thr k bs) = decide (k ≤ cnt x bs)
  | 0, _ => by simp [thr, evB]
  | k + 1, [] => by simp [thr, evB, cnt]
  | k + 1, b :: bs => by
    have e : cnt x (b :: bs) = (evB x b).toNat + cnt x bs := by simp [cnt]
    show (evB x b && evB x (thr k bs) || evB x (thr (k + 1) bs)) = _
    rw [thr_ev k bs, thr_ev (k + 1) bs, e]
    cases evB x b
    · simp
    · simp only [Bool.true_and, Bool.toNat_true]
      rw [Bool.eq_iff_iff]
      simp only [Bool.or_eq_true, decide_eq_true_eq]
      omega
/-- node i's ties -/
noncomputable def nX (i : Nat) : List BX := [eX i 0, eX i 1, eX i 2, eX i 3, eX i 4, eX i 5]
theorem nX_cnt {g i : Nat} (hi : i < 6) : cnt (bitsOf g) (nX i) = deg g i := by
  unfold cnt nX deg
  simp only [List.map_cons, List.map_nil, List.sum_cons, List.sum_nil, eX_ev hi (by decide : 0 < 6), eX_ev hi (by decide : 1 < 6), eX_ev hi (by decide : 2 < 6), eX_ev hi (by decide : 3 < 6), eX_ev hi (by decide : 4 < 6), eX_ev hi (by decide : 5 < 6)]
  omega
theorem cnt_append {x : Nat → Bool} (a b : List BX) : cnt x (a ++ b) = cnt x a + cnt x b := by simp [cnt]
/-- both nodes' ties together are six or more -/
noncomputable def heavyX (i j : Nat) : BX := thr 6 (nX i ++ nX j)
theorem heavy_ev {g i j : Nat} (hi : i < 6) (hj : j < 6) : evB (bitsOf g) (heavyX i j) = decide (6 ≤ deg g i + deg g j) := by
  unfold heavyX
  rw [thr_ev, cnt_append, nX_cnt hi, nX_cnt hj]
/-! the round trip -/
noncomputable abbrev MX := Nat → Nat → BX
noncomputable def orU (m : MX) (q v : Nat) : BX := .or (.and (m q 0) (eX v 0)) (.or (.and (m q 1) (eX v 1)) (.or (.and (m q 2) (eX v 2)) (.or (.and (m q 3) (eX v 3)) (.and (m q 4) (eX v 4)))))
noncomputable def mE (m : MX) (v : Nat) : MX := fun q u => if q = 2 ^ v then (if u = v then eX 5 v else .f) else m q u
noncomputable def m0 : MX := [0, 1, 2, 3, 4].foldl mE fun _ _ => .f
noncomputable def mV (p : Nat) (m : MX) (v : Nat) : MX := if p.testBit v then fun q u => if q = p then if u = v then .or (m p v) (orU m (p - 2 ^ v) v) else m q u else m q u else m
noncomputable def mP (m : MX) (p : Nat) : MX := [0, 1, 2, 3, 4].foldl (mV p) m
noncomputable def ps31 : List Nat := [1,2,3,4,5,6,7,8,9,10,11,12,13,14,15,16,17,18,19,20,21,22,23,24,25,26,27,28,29,30,31]
noncomputable def tripX : BX := orU (ps31.foldl mP m0) 31 5
noncomputable def RelM (g : Nat) (e : List Int) (m : MX) : Prop := e.length = 32 ∧ ∀ q, q < 32 → ∃ n : Nat, n < 32 ∧ e.getD q 0 = (n : Int) ∧ ∀ v, v < 5 → n.testBit v = evB (bitsOf g) (m q v)
theorem and1 : ∀ (a : Fin 64) (v : Fin 5), Builtin.bitAnd (a.val : Int) (1 * 2 ^ v.val) = ((a.val &&& 2 ^ v.val : Nat) : Int) := by decide +kernel
theorem and2 : ∀ (a : Fin 32) (b : Fin 64), (Builtin.bitAnd (a.val : Int) (b.val : Int) != 0) = (a.val.testBit 0 && b.val.testBit 0 || (a.val.testBit 1 && b.val.testBit 1 || (a.val.testBit 2 && b.val.testBit 2 || (a.val.testBit 3 && b.val.testBit 3 || a.val.testBit 4 && b.val.testBit 4)))) := by decide +kernel
theorem pow1 : ∀ v : Fin 5, (1 * 2 ^ v.val : Int).toNat = 2 ^ v.val := by decide +kernel
theorem bitE : ∀ (a : Fin 64) (v u : Fin 5), (a.val &&& 2 ^ v.val).testBit u.val = (a.val.testBit v.val && decide (u = v)) := by decide +kernel
theorem bitO : ∀ (a : Fin 32) (v u : Fin 5), (a.val ||| 2 ^ v.val).testBit u.val = (a.val.testBit u.val || decide (u = v)) := by decide +kernel
theorem ltE : ∀ (a : Fin 64) (v : Fin 5), a.val &&& 2 ^ v.val < 32 := by decide +kernel
theorem ltO : ∀ (a : Fin 32) (v : Fin 5), a.val ||| 2 ^ v.val < 32 := by decide +kernel
theorem getD_set {e : List Int} {a q : Nat} {x : Int} (ha : a < e.length) : (e.set a x).getD q 0 = if q = a then x else e.getD q 0 := by
  simp only [List.getD_eq_getElem?_getD, List.getElem?_set]
  by_cases h : q = a
  · subst h; simp [ha]
  · simp [h, Ne.symm h]
theorem row_get {g v : Nat} (hv : v < 6) : (rowsOf g).getD v 0 = (rowN g v : Int) := by
  have := six_get (rowN g) (k := (v : Int)) (by omega) (by omega)
  rw [Int.toNat_natCast] at this
  exact this
theorem tE_rel {g v : Nat} {e : List Int} {m : MX} (hv : v < 5) (h : RelM g e m) : RelM g (tE (rowsOf g) e (v : Int)) (mE m v) := by
  have e1 := pow1 ⟨v, hv⟩
  have e2 := and1 ⟨rowN g 5, rowN_lt g 5⟩ ⟨v, hv⟩
  have h5 : (rowsOf g).getD (Int.toNat 5) 0 = (rowN g 5 : Int) := row_get (by decide)
  simp only at e1 e2
  unfold tE
  rw [h5, Int.toNat_natCast, e1, e2]
  have hl : 2 ^ v < e.length := by rw [h.1]; exact Nat.pow_lt_pow_right (n := 5) (a := 2) (by decide) hv
  refine ⟨by rw [List.length_set]; exact h.1, fun q hq => ?_⟩
  rw [getD_set hl]
  unfold mE
  by_cases c : q = 2 ^ v
  · refine ⟨rowN g 5 &&& 2 ^ v, ltE ⟨_, rowN_lt g 5⟩ ⟨v, hv⟩, by rw [if_pos c], fun u hu => ?_⟩
    rw [if_pos c]
    have := bitE ⟨_, rowN_lt g 5⟩ ⟨v, hv⟩ ⟨u, hu⟩
    simp only [Fin.mk.injEq] at this
    rw [this, rowN_bit _ _ (by omega)]
    by_cases d : u = v
    · rw [if_pos d, eX_ev (by decide) (by omega), decide_eq_true d, Bool.and_true]
    · rw [if_neg d, decide_eq_false d, Bool.and_false]; rfl
  · obtain ⟨n, h1, h2, h3⟩ := h.2 q hq
    exact ⟨n, h1, by rw [if_neg c]; exact h2, fun u hu => by rw [if_neg c]; exact h3 u hu⟩
theorem orU_ev {g q v : Nat} {e : List Int} {m : MX} (hv : v < 6) (hq : q < 32) (h : RelM g e m) : evB (bitsOf g) (orU m q v) = (Builtin.bitAnd (e.getD q 0) ((rowsOf g).getD v 0) != 0) := by
  obtain ⟨n, h1, h2, h3⟩ := h.2 q hq
  have e2 := and2 ⟨n, h1⟩ ⟨rowN g v, rowN_lt g v⟩
  simp only at e2
  rw [h2, row_get hv, e2, h3 0 (by decide), h3 1 (by decide), h3 2 (by decide), h3 3 (by decide), h3 4 (by decide)]
  rw [rowN_bit _ _ (by decide), rowN_bit _ _ (by decide), rowN_bit _ _ (by decide), rowN_bit _ _ (by decide), rowN_bit _ _ (by decide)]
  rw [← eX_ev hv (by decide), ← eX_ev hv (by decide), ← eX_ev hv (by decide), ← eX_ev hv (by decide), ← eX_ev hv (by decide)]
  rfl
theorem tV_rel {g p v : Nat} {e : List Int} {m : MX} (hp : p < 32) (hv : v < 5) (h : RelM g e m) : RelM g (tV (rowsOf g) (p : Int) e (v : Int)) (mV p m v) := by
  have e3 := bit6 ⟨p, by omega⟩ ⟨v, by omega⟩
  simp only at e3
  unfold tV mV
  rw [Int.toNat_natCast, e3]
  cases hb : p.testBit v
  · rw [if_neg (fun c => c.1 (by simp))]
    simpa using h
  · have hle : 2 ^ v ≤ p := Nat.ge_two_pow_of_testBit hb
    have e4 : ((p : Int) - 1 * 2 ^ v).toNat = p - 2 ^ v := by
      have h2 : ((2 ^ v : Nat) : Int) = (2 : Int) ^ v := by simp
      rw [Int.one_mul, ← h2, ← Int.ofNat_sub hle, Int.toNat_natCast]
    rw [e4]
    have hq : p - 2 ^ v < 32 := Nat.lt_of_le_of_lt (Nat.sub_le _ _) hp
    have e5 := orU_ev (v := v) (by omega) hq h
    simp only [if_true]
    obtain ⟨np, n1, n2, n3⟩ := h.2 p hp
    have key : ∀ q, q < 32 → q ≠ p → ∃ n : Nat, n < 32 ∧ e.getD q 0 = (n : Int) ∧ ∀ u, u < 5 → n.testBit u = evB (bitsOf g) (if q = p then if u = v then .or (m p v) (orU m (p - 2 ^ v) v) else m q u else m q u) := fun q hq hne => by
      obtain ⟨n, h1, h2, h3⟩ := h.2 q hq
      exact ⟨n, h1, h2, fun u hu => by rw [if_neg hne]; exact h3 u hu⟩
    by_cases c : Builtin.bitAnd (e.getD (p - 2 ^ v) 0) ((rowsOf g).getD v 0) = 0
    · rw [if_neg (fun d => d.2 c)]
      have e6 : evB (bitsOf g) (orU m (p - 2 ^ v) v) = false := by rw [e5, c]; rfl
      refine ⟨h.1, fun q hq => ?_⟩
      by_cases hqp : q = p
      · subst hqp
        refine ⟨np, n1, n2, fun u hu => ?_⟩
        dsimp only
        rw [if_pos rfl, n3 u hu]
        by_cases huv : u = v
        · rw [if_pos huv, huv]
          show _ = (evB _ (m q v) || evB _ (orU m (q - 2 ^ v) v))
          rw [e6, Bool.or_false]
        · rw [if_neg huv]
      · exact key q hq hqp
    · rw [if_pos ⟨by simp, c⟩]
      have e6 : evB (bitsOf g) (orU m (p - 2 ^ v) v) = true := by rw [e5]; simpa using c
      have e7 := or6 ⟨np, by omega⟩ ⟨v, by omega⟩
      simp only at e7
      rw [Int.toNat_natCast, n2, e7]
      refine ⟨by rw [List.length_set]; exact h.1, fun q hq => ?_⟩
      rw [getD_set (by rw [h.1]; exact hp)]
      by_cases hqp : q = p
      · subst hqp
        refine ⟨np ||| 2 ^ v, ltO ⟨np, n1⟩ ⟨v, hv⟩, by rw [if_pos rfl], fun u hu => ?_⟩
        have e8 := bitO ⟨np, n1⟩ ⟨v, hv⟩ ⟨u, hu⟩
        simp only [Fin.mk.injEq] at e8
        dsimp only
        rw [if_pos rfl, e8]
        by_cases huv : u = v
        · rw [if_pos huv, decide_eq_true huv]
          show _ = (evB _ (m q v) || evB _ (orU m (q - 2 ^ v) v))
          rw [e6, Bool.or_true, Bool.or_true]
        · rw [if_neg huv, decide_eq_false huv, Bool.or_false, n3 u hu]
      · rw [if_neg hqp]
        exact key q hq hqp
theorem fold_rel {g : Nat} {f : List Int → Int → List Int} {F : MX → Nat → MX} : ∀ (l : List Nat) (e : List Int) (m : MX), (∀ v ∈ l, ∀ e m, RelM g e m → RelM g (f e (v : Int)) (F m v)) → RelM g e m → RelM g ((l.map fun (v : Nat) => (v : Int)).foldl f e) (l.foldl F m)
  | [], _, _, _, h => h
  | v :: l, e, m, hs, h => fold_rel l _ _ (fun v' hv' => hs v' (List.Mem.tail _ hv')) (hs v (List.Mem.head _) e m h)
theorem ks5 : rangeKs 0 (5 - 0 : Int).toNat = [0, 1, 2, 3, 4].map fun (v : Nat) => (v : Int) := by decide +kernel
theorem ks31 : rangeKs 1 (32 - 1 : Int).toNat = ps31.map fun (v : Nat) => (v : Int) := by decide +kernel
theorem lt5 : ∀ v ∈ [0, 1, 2, 3, 4], v < 5 := by decide
theorem lt31 : ∀ v ∈ ps31, v < 32 := by decide
theorem start_rel (g : Nat) : RelM g (tS (rowsOf g)) m0 := by
  unfold tS
  rw [ks5]
  refine fold_rel _ _ _ (fun v hv e m h => tE_rel (lt5 v hv) h) ⟨rfl, fun q hq => ⟨0, by decide, ?_, fun v _ => by rw [Nat.zero_testBit]; rfl⟩⟩
  rw [List.getD_eq_getElem?_getD, List.getElem?_replicate, if_pos hq]; rfl
theorem trip_ev (g : Nat) : tripI (rowsOf g) = evB (bitsOf g) tripX := by
  have h : RelM g ((rangeKs 1 (32 - 1 : Int).toNat).foldl (tP (rowsOf g)) (tS (rowsOf g))) (ps31.foldl mP m0) := by
    rw [ks31]
    refine fold_rel _ _ _ (fun p hp e m h => ?_) (start_rel g)
    show RelM g (tP (rowsOf g) e (p : Int)) (mP m p)
    unfold tP mP
    rw [ks5]
    exact fold_rel _ _ _ (fun v hv e m h => tV_rel (lt31 p hp) (lt5 v hv) h) h
  exact (orU_ev (v := 5) (by decide) (by decide) h).symm
end

section
open PySem PySem.W
set_option maxRecDepth 100000
/-- the table with the tie p laid -/
noncomputable def T1 (p : Nat) : Nat → Nat := fun i => if i = p then fullT 15 else tabT 15 i
noncomputable def stepN (p : Nat × Nat) : Nat :=
  ((evN (fullT 15) (tabT 15) (heavyX p.1 p.2)) &&& ((fullT 15) ^^^ (tabT 15 (eIdx p.1 p.2)))) &&& ((evN (fullT 15) (tabT 15) tripX) ^^^ (evN (fullT 15) (T1 (eIdx p.1 p.2)) tripX))
noncomputable def stepOk (p : Nat × Nat) : Bool := Nat.beq (stepN p) 0
theorem step_zero {p : Nat × Nat} (h : stepOk p = true) : stepN p = 0 := by unfold stepOk at h; exact Nat.eq_of_beq_eq_true h
theorem steps_ok : allPairs.all stepOk = true := by decide +kernel
theorem steps_at {i j : Nat} (h : (i, j) ∈ allPairs) : ((evN (fullT 15) (tabT 15) (heavyX i j)) &&& ((fullT 15) ^^^ (tabT 15 (eIdx i j)))) &&& ((evN (fullT 15) (tabT 15) tripX) ^^^ (evN (fullT 15) (T1 (eIdx i j)) tripX)) = 0 := step_zero (List.all_eq_true.mp steps_ok _ h)
theorem bits_add {g i j : Nat} (hi : i < 6) (hj : j < 6) (hij : i ≠ j) (m : Nat) : bitsOf (addE g i j) m = if m = eIdx i j then true else bitsOf g m := by
  have hl : eIdx i j < 15 := eIdx_lt ⟨i, hi⟩ ⟨j, hj⟩ (fun q => hij (congrArg Fin.val q))
  unfold bitsOf addE
  rw [Nat.testBit_mod_two_pow, Nat.testBit_mod_two_pow, Nat.testBit_or, Nat.testBit_two_pow]
  by_cases h : m = eIdx i j
  · subst h; simp [hl]
  · simp [h, Ne.symm h]
theorem trip_step {g i j : Nat} (h : Step g i j) : tripI (rowsOf (addE g i j)) = tripI (rowsOf g) := by
  have h1 := h.1
  have hi := h.2.1
  have hj : j < 6 := by omega
  have hne : i ≠ j := by omega
  have hm : (i, j) ∈ allPairs := by
    have : i = 1 ∨ i = 2 ∨ i = 3 ∨ i = 4 ∨ i = 5 := by omega
    have : j = 0 ∨ j = 1 ∨ j = 2 ∨ j = 3 ∨ j = 4 := by omega
    unfold allPairs
    rcases ‹i = 1 ∨ _› with rfl | rfl | rfl | rfl | rfl <;> rcases ‹j = 0 ∨ _› with rfl | rfl | rfl | rfl | rfl <;> first | decide | (exfalso; omega)
  have hz := steps_at hm
  have hg : g % 2 ^ 15 < 2 ^ 15 := Nat.mod_lt _ (by decide)
  have ht : ∀ q, (tabT 15 q).testBit (g % 2 ^ 15) = bitsOf g q := fun q => tab_bit 15 _ q hg
  have hF := full_bit hg
  have ht1 : ∀ q, (T1 (eIdx i j) q).testBit (g % 2 ^ 15) = bitsOf (addE g i j) q := fun q => by
    rw [bits_add hi hj hne]
    unfold T1
    split
    · exact hF
    · exact ht q
  have hb := congrArg (fun n => n.testBit (g % 2 ^ 15)) hz
  simp only [Nat.zero_testBit] at hb
  rw [Nat.testBit_and, Nat.testBit_and, Nat.testBit_xor, Nat.testBit_xor, ev_bit hF ht, ev_bit hF ht, ev_bit hF ht1, hF, ht, heavy_ev hi hj, decide_eq_true h.2.2.2] at hb
  have he : bitsOf g (eIdx i j) = false := by
    have := eX_ev (g := g) hi hj
    rw [h.2.2.1] at this
    unfold eX at this
    rw [if_neg hne] at this
    exact this
  rw [he] at hb
  rw [trip_ev, trip_ev]
  cases e1 : evB (bitsOf g) tripX <;> cases e2 : evB (bitsOf (addE g i j)) tripX <;> rw [e1, e2] at hb <;> first | rfl | cases hb
theorem trip_reach {g g' : Nat} (h : Reach g g') : tripI (rowsOf g') = tripI (rowsOf g) := by
  induction h with
  | refl => rfl
  | step _ hs ih => rw [trip_step hs, ih]
end

section
open PySem PySem.W
set_option maxRecDepth 100000
noncomputable def impX (a b : BX) : BX := .or (.not a) b
noncomputable def allX : List BX → BX
  | [] => .t
  | b :: bs => .and b (allX bs)
/-- nodes of k ties or fewer -/
noncomputable def fewX (k : Nat) : List BX := [0, 1, 2, 3, 4, 5].map fun i => .not (thr (k + 1) (nX i))
noncomputable def closedX : BX := allX (allPairs.map fun p => .or (eX p.1 p.2) (.not (heavyX p.1 p.2)))
noncomputable def fullX : BX := allX (allPairs.map fun p => eX p.1 p.2)
noncomputable def chvX : BX := .and (.not (.and (thr 1 (fewX 1)) (thr 5 (fewX 4)))) (.not (.and (thr 2 (fewX 2)) (thr 4 (fewX 3))))
noncomputable def subX (i j : Nat) : BX := allX ([0, 1, 2, 3, 4, 5].map fun k => if k = i ∨ k = j then .t else impX (eX i k) (eX j k))
noncomputable def nestX : BX := allX (allPairs.map fun p => .or (subX p.1 p.2) (subX p.2 p.1))
noncomputable def sureX : BX := .and (.not (thr 1 (fewX 1))) (.not (thr 2 (fewX 2)))
theorem chv_ok : Nat.beq (evN (fullT 15) (tabT 15) (impX (.and closedX chvX) fullX)) (fullT 15) = true := by decide +kernel
theorem nest_ok : Nat.beq (evN (fullT 15) (tabT 15) (impX (.and nestX tripX) sureX)) (fullT 15) = true := by decide +kernel
theorem chv_eq : evN (fullT 15) (tabT 15) (impX (.and closedX chvX) fullX) = fullT 15 := Nat.eq_of_beq_eq_true chv_ok
theorem nest_eq : evN (fullT 15) (tabT 15) (impX (.and nestX tripX) sureX) = fullT 15 := Nat.eq_of_beq_eq_true nest_ok
theorem imp_ev {x : Nat → Bool} {a b : BX} (h : evB x (impX a b) = true) (ha : evB x a = true) : evB x b = true := by
  have h' : (!evB x a || evB x b) = true := h
  rw [ha] at h'
  exact h'
theorem all_ev {x : Nat → Bool} : ∀ l : List BX, evB x (allX l) = true ↔ ∀ b ∈ l, evB x b = true
  | [] => by simp [allX, evB]
  | b :: bs => by
    show (evB x b && evB x (allX bs)) = true ↔ _
    rw [Bool.and_eq_true, all_ev bs, List.forall_mem_cons]
end

section
open PySem PySem.W PySem.Calls PyProof.Rows PyProof.Rows.LCg
set_option maxRecDepth 100000

section
variable {prog : Program} {w : World} {A : Around} {E : Value → Shared → Prop} {R : Result → Shared → Prop} {s : Shared}
variable {elt t0 it0 t1 it1 ct : Expr} {scope : Scope} {pos : Pos} {it acc : Value} {env : Env}

noncomputable abbrev two (elt t0 it0 t1 it1 ct : Expr) (scope : Scope) (pos : Pos) : Expr := .ListComp elt [⟨t0, it0, [], 0⟩, ⟨t1, it1, [ct], 0⟩] scope pos

theorem turn_two0 (hs1 : ∀ x, foldedSetIterable it1 env x = pure x) (ht : ∀ v, letOwnedTupleGo t0 it v = pure ()) {Q : Fin → Shared → Prop}
    (h : wpAny (model prog w) A (pyNext it) (fun r s₁ => match r with
      | none => Q (.done .next) s₁
      | some v => wpAny (model prog w) A (assign t0 env v) (fun _ s₂ => wpAny (model prog w) A (eval it1 env) (fun x s₃ => wpAny (model prog w) A (pyIter x) (fun it' s₄ =>
          wpAny (model prog w) A (runOwn (.compStart (two elt t0 it0 t1 it1 ct scope pos) 1 it' acc env) env) (fun _ s₅ => Q (.again (.compLoop (two elt t0 it0 t1 it1 ct scope pos) 0 it acc env)) s₅) E s₄) E s₃) E s₂) E s₁) E s) :
    wpAny (model prog w) A (compTurn (two elt t0 it0 t1 it1 ct scope pos) 0 it acc env) Q E s := by
  unfold compTurn
  refine wpAny_bind (wpAny_standAt (wpAny_bind (wpAny_mono h (fun r s₁ h₁ => ?_) fun _ _ x => x)))
  cases r with
  | none => exact wpAny_pure h₁
  | some v =>
    refine wpAny_bind (wpAny_of_eq (ht v) ?_)
    refine wpAny_bind (wpAny_mono h₁ (fun _ s₂ h₂ => ?_) fun _ _ x => x)
    refine wpAny_bind (wpAny_mono (wpAny_tests_nil (Q := fun ok s' => ok = true ∧ s' = s₂) ⟨rfl, rfl⟩) (fun ok s' hh => ?_) fun _ _ x => x)
    obtain ⟨rfl, rfl⟩ := hh
    refine wpAny_bind (wpAny_mono h₂ (fun x s₃ h₃ => ?_) fun _ _ x => x)
    refine wpAny_bind (wpAny_standAt ?_)
    refine wpAny_bind (wpAny_of_eq (hs1 x) ?_)
    refine wpAny_bind (wpAny_holding (wpAny_mono h₃ (fun it' s₄ h₄ => ?_) fun _ _ x => x))
    exact wpAny_bind (wpAny_mono h₄ (fun f s₅ h₅ => wpAny_pure h₅) fun _ _ x => x)

theorem loop_two1 (I : Nat → Shared → Prop) (ht : ∀ v, letOwnedTupleGo t1 it v = pure ())
    (turn : ∀ n s, I n s → wpAny (model prog w) A (pyNext it) (fun r s₁ => match r with
      | none => R (.ok .next) s₁
      | some v => wpAny (model prog w) A (assign t1 env v) (fun _ s₂ =>
          wpAny (model prog w) A (isTrue ct env (eval ct env)) (fun ok s₃ =>
            if ok = true then wpAny (model prog w) A (eval elt env) (fun x s₄ =>
              wpAny (model prog w) A (call (.builtin "list.append") [acc, x]) (fun _ s₅ => ∃ m, m < n ∧ I m s₅) (notedBy (model prog w) A env fun e s' => R (.error e) s') s₄) (notedBy (model prog w) A env fun e s' => R (.error e) s') s₃
            else ∃ m, m < n ∧ I m s₃) (notedBy (model prog w) A env fun e s' => R (.error e) s') s₂) (notedBy (model prog w) A env fun e s' => R (.error e) s') s₁) (notedBy (model prog w) A env fun e s' => R (.error e) s') s)
    (n : Nat) (h : I n s) : codeAny (model prog w) A (.compLoop (two elt t0 it0 t1 it1 ct scope pos) 1 it acc env) R s := by
  refine codeAny_loop rfl I (fun n s hI => ?_) n h
  show wpAny _ A ((compTurn (two elt t0 it0 t1 it1 ct scope pos) 1 it acc env).onRaise (fun x => do noteFrame x env; theTreesLotGoes x)) _ _ s
  refine wpAny_noted ?_
  unfold compTurn
  refine wpAny_bind (wpAny_standAt (wpAny_bind (wpAny_mono (turn n s hI) (fun r s₁ h₁ => ?_) fun _ _ h' => h')))
  cases r with
  | none => exact wpAny_pure h₁
  | some v =>
    refine wpAny_bind (wpAny_of_eq (ht v) ?_)
    refine wpAny_bind (wpAny_mono h₁ (fun _ s₂ h₂ => wpAny_bind (wpAny_mono (wpAny_tests_one h₂) (fun ok s₃ h₃ => ?_) fun _ _ h' => h')) fun _ _ h' => h')
    cases ok with
    | false => exact wpAny_pure ⟨rfl, h₃⟩
    | true =>
      exact wpAny_bind (wpAny_bind (wpAny_mono h₃ (fun x s₄ h₄ => wpAny_bind (wpAny_mono h₄ (fun _ s₅ h₅ => wpAny_pure (wpAny_pure ⟨rfl, h₅⟩)) fun _ _ h' => h')) fun _ _ h' => h'))

theorem loop_two0 (I : Nat → Shared → Prop) (hs1 : ∀ x, foldedSetIterable it1 env x = pure x) (ht : ∀ v, letOwnedTupleGo t0 it v = pure ())
    (turn : ∀ n s, I n s → wpAny (model prog w) A (pyNext it) (fun r s₁ => match r with
      | none => R (.ok .next) s₁
      | some v => wpAny (model prog w) A (assign t0 env v) (fun _ s₂ => wpAny (model prog w) A (eval it1 env) (fun x s₃ => wpAny (model prog w) A (pyIter x) (fun it' s₄ =>
          wpAny (model prog w) A (runOwn (.compStart (two elt t0 it0 t1 it1 ct scope pos) 1 it' acc env) env) (fun _ s₅ => ∃ m, m < n ∧ I m s₅) (notedBy (model prog w) A env fun e s' => R (.error e) s') s₄) (notedBy (model prog w) A env fun e s' => R (.error e) s') s₃)
          (notedBy (model prog w) A env fun e s' => R (.error e) s') s₂) (notedBy (model prog w) A env fun e s' => R (.error e) s') s₁) (notedBy (model prog w) A env fun e s' => R (.error e) s') s)
    (n : Nat) (h : I n s) : codeAny (model prog w) A (.compLoop (two elt t0 it0 t1 it1 ct scope pos) 0 it acc env) R s := by
  refine codeAny_loop rfl I (fun n s hI => ?_) n h
  show wpAny _ A ((compTurn (two elt t0 it0 t1 it1 ct scope pos) 0 it acc env).onRaise (fun x => do noteFrame x env; theTreesLotGoes x)) _ _ s
  refine wpAny_noted (turn_two0 hs1 ht (wpAny_mono (turn n s hI) (fun r s₁ h₁ => ?_) fun _ _ h' => h'))
  cases r with
  | none => exact h₁
  | some v => exact wpAny_mono h₁ (fun _ s₂ h₂ => wpAny_mono h₂ (fun x s₃ h₃ => wpAny_mono h₃ (fun it' s₄ h₄ => wpAny_mono h₄ (fun _ s₅ h₅ => ⟨rfl, h₅⟩) fun _ _ x => x) fun _ _ x => x) fun _ _ x => x) fun _ _ x => x

theorem start_two1
    (h0 : codeAny (model prog w) A (.compLoop (two elt t0 it0 t1 it1 ct scope pos) 1 it acc env) R s)
    (h : wpAny (model prog w) A (pyIter it) (fun it' s' => codeAny (model prog w) A (.compLoop (two elt t0 it0 t1 it1 ct scope pos) 1 it' acc env) R s')
      (notedBy (model prog w) A env fun x s' => R (.error x) s') s) :
    codeAny (model prog w) A (.compStart (two elt t0 it0 t1 it1 ct scope pos) 1 it acc env) R s := by
  refine codeAny_of_tree ?_
  show wpAny _ _ ((compStart (two elt t0 it0 t1 it1 ct scope pos) 1 it acc env).onRaise (fun x => do noteFrame x env; standAt theWindowsPlace)) _ _ s
  refine wpAny_notedAt ?_
  unfold compStart
  show wpAny _ _ (ask >>= _) _ _ s
  refine wpAny_bind (wpAny_askSetting (wpAny_ite ?_))
  split
  · first
      | exact wpAny_bind (wpAny_pure (wpAny_pure (And.intro rfl h0)))
      | exact wpAny_pure (And.intro rfl h0)
  · first
      | exact wpAny_bind (wpAny_rule (wpAny_bind (wpAny_standAt (wpAny_bind (wpAny_mono h (fun it' s' h' => wpAny_pure (And.intro rfl h')) fun _ _ x => x)))))
      | (refine wpAny_bind (wpAny_rule ?_); show wpAny _ _ (standAt it1.pos >>= _) _ _ s; exact wpAny_bind (wpAny_standAt (wpAny_bind (wpAny_mono h (fun it' s' h' => wpAny_pure (And.intro rfl h')) fun _ _ x => x))))
end

/-- the addresses of nw are none of bad -/
noncomputable def OffAll (bad : List Addr) (nw : List (Addr × Obj)) : Prop := ∀ p ∈ nw, p.1 ∉ bad

section
variable {prog : Program} {w : World} {A : Around} {E : Value → Shared → Prop} {s : Shared} {h₀ : Heap} {L : Addr} {m : Str → Option Value} {env : Env}

/-- a turn's end: what it made lies ahead of the rest -/
noncomputable def TEnd (h₀ : Heap) (L : Addr) (m : Str → Option Value) (s : Shared) (keep nw : List (Addr × Obj)) (P : List (Addr × Obj) → Prop) (s' : Shared) : Prop :=
  ∃ h' tk' add, s' = { s with heap := h', toks := tk' } ∧ Fr h₀ L h' m ∧ News h₀ L h' (add ++ (keep ++ nw)) ∧ OffAll (keep.map (·.1)) add ∧ P (add ++ nw)

theorem range_item {I : Addr} {a left : Int} {Q : Option Value → Shared → Prop} (hst : IsRangeIter s.heap I a left 1) (hl : 0 < left)
    (h : ∀ h' t tk, IsRangeIter h' I (a + 1) (left - 1) 1 → Heap.SameBut I s.heap h' → Q (some (.int a t)) { s with heap := h', toks := tk }) : wpAny (model prog w) A (pyNext (.ref I)) Q E s := by
  refine wpAny_pyNext_range_item hst (by omega) fun h' hit hs => ?_
  exact h h' _ _ hit hs

noncomputable abbrev rIter (a left : Int) : Obj := { cls := .type "range_iterator", dict := none, data := .fields #[rawInt a, rawInt left, rawInt 1], slots := #[] }

theorem ListComp_two {elt it0 it1 ct : Expr} {x0 x1 : Str} {p0 p1 : Pos} {scope : Scope} {pos : Pos} {cl : List (Str × Addr)} {Q : Value → Shared → Prop} {news : List (Addr × Obj)}
    (n0 : Nat) (n1 : Nat → Nat) (Inv : Nat → Nat → List Value → List (Addr × Obj) → Prop) (_F₀ : Fr h₀ L s.heap m) (_N₀ : News h₀ L s.heap news)
    (hh : A.handled = none) (hmark : A.mark none = A)
    (hclos : closureFor scope env = pure cl) (hcell : ∀ y ∈ scope.names, y.2 ≠ .cell) (hkind : scope.kind = .function)
    (hnames : ∀ y ∈ scope.names, y.2 = .local → scope.names.lookup y.1 = some .local) (hx0 : scope.names.lookup x0 = some .local) (hx1 : scope.names.lookup x1 = some .local) (hxx : x0 ≠ x1)
    (hs0 : ∀ x, foldedSetIterable it0 env x = pure x) (hs1 : ∀ C x, foldedSetIterable it1 (compEnvC scope cl C env) x = pure x)
    (hsm0 : Builtin.Range.small 0 n0 1 = true) (hsm1 : ∀ i, i < n0 → Builtin.Range.small 0 (n1 i) 1 = true)
    (hz0 : Builtin.Range.rangeSize 0 n0 1 = ((n0 : Nat) : Int)) (hz1 : ∀ i, i < n0 → Builtin.Range.rangeSize 0 (n1 i) 1 = ((n1 i : Nat) : Int))
    (hInv0 : Inv 0 0 [] news) (hNext : ∀ i ys nw, i < n0 → Inv i (n1 i) ys nw → Inv (i + 1) 0 ys nw) (hLen : ∀ i j ys nw, Inv i j ys nw → ys.length ≤ sizeLine)
    (h : wpAny (model prog w) A (eval it0 env) (fun xv s₁ => ∃ r t u v h₁ tk₁, xv = .ref r ∧ s₁ = { s with heap := h₁, toks := tk₁ } ∧ Fr h₀ L h₁ m ∧ News h₀ L h₁ news ∧ IsRange h₁ r 0 n0 1 t u v) E s)
    (hIter : ∀ i I oI C oC D ys nw m₂ t h₁ tk (E' : Value → Shared → Prop), i < n0 → Inv i 0 ys nw → NsObj oC m₂ → m₂ x0 = some (.int (i : Int) t) → Fr h₀ L h₁ m → News h₀ L h₁ ([(I, oI), (C, oC), (D, lst ys)] ++ nw) →
      wpAny (model prog w) A (eval it1 (compEnvC scope cl C env)) (fun xv s₁ => ∃ r t u v h₂ tk₂, xv = .ref r ∧ s₁ = { s with heap := h₂, toks := tk₂ } ∧ Fr h₀ L h₂ m ∧ News h₀ L h₂ ([(I, oI), (C, oC), (D, lst ys)] ++ nw) ∧ IsRange h₂ r 0 (n1 i) 1 t u v) E' { s with heap := h₁, toks := tk })
    (hTurn : ∀ i j I oI J oJ C oC D ys nw m₂ t t' h₁ tk (E' : Value → Shared → Prop), i < n0 → j < n1 i → Inv i j ys nw → NsObj oC m₂ → m₂ x0 = some (.int (i : Int) t) → m₂ x1 = some (.int (j : Int) t') → Fr h₀ L h₁ m →
      News h₀ L h₁ ([(J, oJ), (I, oI), (C, oC), (D, lst ys)] ++ nw) →
      wpAny (model prog w) A (isTrue ct (compEnvC scope cl C env) (eval ct (compEnvC scope cl C env))) (fun ok s₁ => if ok = true then
        wpAny (model prog w) A (eval elt (compEnvC scope cl C env)) (fun y s₂ => TEnd h₀ L m s [(J, oJ), (I, oI), (C, oC), (D, lst ys)] nw (fun nw' => Inv i (j + 1) (ys ++ [y]) nw') s₂) E' s₁
        else TEnd h₀ L m s [(J, oJ), (I, oI), (C, oC), (D, lst ys)] nw (fun nw' => Inv i (j + 1) ys nw') s₁) E' { s with heap := h₁, toks := tk })
    (hFin : ∀ D ys nw h₁ tk, Inv n0 0 ys nw → Fr h₀ L h₁ m → News h₀ L h₁ ((D, lst ys) :: nw) → OffAll [D] nw → Q (.ref D) { s with heap := h₁, toks := tk }) :
    wpAny (model prog w) A (eval (two elt (.Name x0 p0) it0 (.Name x1 p1) it1 ct scope pos) env) Q E s := by
  rw [eval_ListComp]
  refine wpAny_comprehension_free (use := none) rfl hs0 hclos hkind hnames (wpAny_mono h (fun xv s₁ q => ?_) fun _ _ e => e)
  obtain ⟨r, t, u, v, h₁, tk₁, rfl, rfl, F, N, hr⟩ := q
  refine wpAny_pyIter_range hr hsm0 ?_
  rw [hz0]
  generalize hI : ({ s with heap := h₁, toks := tk₁ } : Shared).heap.objs.size = I
  have hI' : h₁.objs.size = I := hI
  dsimp only
  generalize hH1 : h₁.push { cls := .type "range_iterator", data := .fields #[rawInt 0, rawInt (n0 : Int), rawInt 1] } = H1
  have hIt1 : IsRangeIter H1 I 0 (n0 : Int) 1 := by rw [← hH1, ← hI']; exact Heap.get?_push_size _ rfl
  have up1 : ∀ b o, h₁.get? b = some o → H1.get? b = some o := fun b o e => hH1 ▸ Heap.get?_push_of_some _ e
  have F1 : Fr h₀ L H1 m := F.keeps up1
  have N1 : News h₀ L H1 news := N.grown up1
  have hI0 : h₀.get? I = none := hI' ▸ next_is_new F
  have hIL : L ≠ I := hI' ▸ Nat.ne_of_lt F.ns.lt
  have offI : ∀ p ∈ news, p.1 ≠ I := fun p hp => hI' ▸ Nat.ne_of_lt (Heap.lt_size (N p hp).1)
  have hIsz : I < H1.objs.size := Heap.lt_size hIt1
  refine wpAny_newObj_type (wpAny_newFunctionEnv hcell (by intro y hy; simp at hy) (fun H3 hns₁ hsb₁ => ?_) hkind)
  dsimp only at hns₁ hsb₁ ⊢
  generalize hH2 : H1.push { cls := .type "list", dict := none, data := .seq ([] : List Value).toArray } = H2 at hns₁ hsb₁ ⊢
  generalize hC' : H2.objs.size = C at hns₁ hsb₁ ⊢
  generalize hD' : H1.objs.size = D at ⊢
  have hC : C = D + 1 := by rw [← hC', ← hH2, Heap.size_push, hD']
  have below : ∀ b, b < D → b ≠ C ∧ b ≠ D := fun b hb => ⟨by rw [hC]; exact Nat.ne_of_lt (Nat.lt_succ_of_lt hb), Nat.ne_of_lt hb⟩
  have hDC : D ≠ C := by rw [hC]; exact Nat.ne_of_lt (Nat.lt_succ_self _)
  have old : ∀ b o, H1.get? b = some o → H3.get? b = some o := fun b o e => hsb₁.extBut b o (below b (hD' ▸ Heap.lt_size e)).1 (Heap.get?_push_of_some _ (hH2 ▸ Heap.get?_push_of_some _ e))
  have hacc : H3.get? D = some (lst []) := hsb₁.extBut _ _ hDC (Heap.get?_push_of_some _ (hH2 ▸ hD' ▸ Heap.get?_push_size _ rfl))
  have fresh₀ : ∀ a, D ≤ a → h₀.get? a = none := fun a ha => by
    cases e : h₀.get? a with
    | none => rfl
    | some o' => exact absurd (hD' ▸ Heap.lt_size (F1.keep a o' e)) (Nat.not_lt.mpr ha)
  have hD₀ : h₀.get? D = none := fresh₀ _ (Nat.le_refl _)
  have hC₀ : h₀.get? C = none := fresh₀ _ (by rw [hC]; exact Nat.le_succ _)
  have hLlt : L < D := hD' ▸ F1.ns.lt
  have hDL : D ≠ L := Ne.symm (below L hLlt).2
  have hCL : C ≠ L := Ne.symm (below L hLlt).1
  have hCI : I ≠ C := (below I (hD' ▸ hIsz)).1
  have hDI : I ≠ D := (below I (hD' ▸ hIsz)).2
  have off₀ : OffAll [I, C, D] news := fun p hp hb => by
    have lt : p.1 < D := hD' ▸ Heap.lt_size (N1 p hp).1
    simp only [List.mem_cons, List.not_mem_nil, or_false] at hb
    rcases hb with hb | hb | hb
    · exact offI p hp hb
    · exact (below _ lt).1 hb
    · exact (below _ lt).2 hb
  have loop : ∀ s₃ : Shared, s₃ = { s with heap := H3, toks := tk₁ + ([] : List (Str × Value)).length } →
      codeAny (model prog w) A (.compLoop (two elt (.Name x0 p0) it0 (.Name x1 p1) it1 ct scope pos) 0 (.ref I) (.ref D) (compEnvC scope cl C env)) (compPost (model prog w) A E none Q (.ref D) C) s₃ := by
    rintro s₃ rfl
    refine loop_two0 (fun k s' => ∃ h' tk i ys m' nw, s' = { s with heap := h', toks := tk } ∧ i ≤ n0 ∧ k = n0 + 1 - i ∧ IsRangeIter h' I (i : Int) ((n0 : Int) - i) 1 ∧ Fr h₀ L h' m ∧ h'.Ns C m' ∧ News h₀ L h' ((D, lst ys) :: nw) ∧ OffAll [I, C, D] nw ∧ Inv i 0 ys nw)
      (hs1 C) (fun _ => rfl) ?_ (n0 + 1) ⟨H3, _, 0, [], _, news, rfl, Nat.zero_le _, rfl, ?_, F1.keeps old, hns₁, ?_, off₀, hInv0⟩
    · rintro k s' ⟨h', tk, i, ys, m', nw, rfl, hi, rfl, hst, F', hn', N', off', hV⟩
      by_cases hlt : i < n0
      · refine range_item hst (by omega) fun h₂ t₂ tk₂ hst₂ hs₂ => ?_
        have ne_I : ∀ b o, b ≠ I → h'.get? b = some o → h₂.get? b = some o := fun b o hb e => hs₂.extBut b o hb e
        have F₂ : Fr h₀ L h₂ m := F'.change hs₂ (Ne.symm hIL) hI0
        have offD : ∀ p ∈ (D, lst ys) :: nw, p.1 ≠ I := fun p hp => by
          rcases List.mem_cons.mp hp with rfl | hp
          · exact Ne.symm hDI
          · exact fun e => off' p hp (by simp [e])
        have N₂ : News h₀ L h₂ ((D, lst ys) :: nw) := fun p hp => ⟨ne_I _ _ (offD p hp) (N' p hp).1, (N' p hp).2⟩
        refine wpAny_assign_Name (wpAny_storeName_local (lookup_relabel_local hx0) (hn'.at' fun o e => ne_I _ o (Ne.symm hCI) e) (fun h₃ hn₃ hs₃ => ?_) (by simp [compEnvC, relabel, hkind]))
        have F₃ : Fr h₀ L h₃ m := F₂.change hs₃ hCL hC₀
        obtain ⟨oC, heC, hoC⟩ := ns_obj hn₃
        have hst₃ : IsRangeIter h₃ I ((i : Int) + 1) ((n0 : Int) - i - 1) 1 := hs₃.extBut _ _ hCI hst₂
        have N₃ : News h₀ L h₃ ([(I, _), (C, oC), (D, lst ys)] ++ nw) := fun p hp => by
          rcases List.mem_cons.mp hp with rfl | hp
          · exact ⟨hst₃, Ne.symm hIL, hI0⟩
          · rcases List.mem_cons.mp hp with rfl | hp
            · exact ⟨heC, hCL, hC₀⟩
            · refine ⟨hs₃.extBut _ _ ?_ (N₂ p hp).1, (N₂ p hp).2⟩
              rcases List.mem_cons.mp hp with rfl | hp
              · exact hDC
              · exact fun e => off' p hp (List.mem_cons.mpr (.inr (List.mem_cons.mpr (.inl e))))
        refine wpAny_mono (hIter i I _ C oC D ys nw _ t₂ h₃ _ _ hlt hV hoC (by simp) F₃ N₃) (fun xv s₄ q => ?_) fun _ _ e => e
        obtain ⟨r', t', u', v', h₄, tk₄, rfl, rfl, F₄, N₄, hr'⟩ := q
        refine wpAny_pyIter_range hr' (hsm1 i hlt) ?_
        rw [hz1 i hlt]
        generalize hJ : ({ s with heap := h₄, toks := tk₄ } : Shared).heap.objs.size = J
        have hJ' : h₄.objs.size = J := hJ
        dsimp only
        generalize hH5 : h₄.push { cls := .type "range_iterator", data := .fields #[rawInt 0, rawInt (n1 i : Int), rawInt 1] } = H5
        have hIt5 : IsRangeIter H5 J 0 (n1 i : Int) 1 := by rw [← hH5, ← hJ']; exact Heap.get?_push_size _ rfl
        have up5 : ∀ b o, h₄.get? b = some o → H5.get? b = some o := fun b o e => hH5 ▸ Heap.get?_push_of_some _ e
        have hJ0 : h₀.get? J = none := hJ' ▸ next_is_new F₄
        have hJL : L ≠ J := hJ' ▸ Nat.ne_of_lt F₄.ns.lt
        have offJ : ∀ p ∈ [(I, _), (C, oC), (D, lst ys)] ++ nw, p.1 ≠ J := fun p hp => hJ' ▸ Nat.ne_of_lt (Heap.lt_size (N₄ p hp).1)
        have hIJ : I ≠ J := offJ (I, _) (List.Mem.head _)
        have hCJ : C ≠ J := offJ (C, oC) (List.Mem.tail _ (List.Mem.head _))
        have hDJ : D ≠ J := offJ (D, lst ys) (List.Mem.tail _ (List.Mem.tail _ (List.Mem.head _)))
        have F₅ : Fr h₀ L H5 m := F₄.keeps up5
        have N₅ := N₄.grown up5
        refine wpAny_runOwn ?_
        rw [hmark]
        have inner : ∀ s₆ : Shared, s₆ = { s with heap := H5, toks := tk₄ } →
            codeAny (model prog w) A (.compLoop (two elt (.Name x0 p0) it0 (.Name x1 p1) it1 ct scope pos) 1 (.ref J) (.ref D) (compEnvC scope cl C env))
              (fun r s' => match r with
                | .ok _ => ∃ m₁, m₁ < n0 + 1 - i ∧ ∃ h' tk i ys m' nw, s' = { s with heap := h', toks := tk } ∧ i ≤ n0 ∧ m₁ = n0 + 1 - i ∧ IsRangeIter h' I (i : Int) ((n0 : Int) - i) 1 ∧ Fr h₀ L h' m ∧ h'.Ns C m' ∧ News h₀ L h' ((D, lst ys) :: nw) ∧ OffAll [I, C, D] nw ∧ Inv i 0 ys nw
                | .error e => cameBackBy (model prog w) A (compEnvC scope cl C env) (notedBy (model prog w) A (compEnvC scope cl C env) fun e s' => compPost (model prog w) A E none Q (.ref D) C (.error e) s') e s') s₆ := by
          rintro s₆ rfl
          refine loop_two1 (fun k s' => ∃ h' tk j ys m' nw, s' = { s with heap := h', toks := tk } ∧ j ≤ n1 i ∧ k = n1 i + 1 - j ∧ IsRangeIter h' J (j : Int) ((n1 i : Int) - j) 1 ∧ IsRangeIter h' I ((i : Int) + 1) ((n0 : Int) - i - 1) 1 ∧ Fr h₀ L h' m ∧ (∃ t, m' x0 = some (.int (i : Int) t)) ∧ h'.Ns C m' ∧ News h₀ L h' ((D, lst ys) :: nw) ∧ OffAll [J, I, C, D] nw ∧ Inv i j ys nw)
            (fun _ => rfl) ?_ (n1 i + 1) ⟨H5, _, 0, ys, _, nw, rfl, Nat.zero_le _, rfl, ?_, (N₅ (I, _) (by simp)).1, F₅, ⟨t₂, by simp⟩, hoC.ns (N₅ (C, oC) (by simp)).1, fun p hp => N₅ p (List.mem_append.mpr ?_), ?_, hV⟩
          · rintro k s' ⟨h₆, tk₆, j, ys', m₆, nw', rfl, hj, rfl, hstJ, hstI, F₆, ⟨tI, hmI⟩, hn₆, N₆, off₆, hV₆⟩
            by_cases hjt : j < n1 i
            · refine range_item hstJ (by omega) fun h₇ t₇ tk₇ hst₇ hs₇ => ?_
              have F₇ : Fr h₀ L h₇ m := F₆.change hs₇ (Ne.symm hJL) hJ0
              refine wpAny_assign_Name (wpAny_storeName_local (lookup_relabel_local hx1) (hn₆.at' fun o e => hs₇.extBut _ o hCJ e) (fun h₈ hn₈ hs₈ => ?_) (by simp [compEnvC, relabel, hkind]))
              have F₈ : Fr h₀ L h₈ m := F₇.change hs₈ hCL hC₀
              obtain ⟨oC₈, heC₈, hoC₈⟩ := ns_obj hn₈
              have stJ₈ : IsRangeIter h₈ J ((j : Int) + 1) ((n1 i : Int) - j - 1) 1 := hs₈.extBut _ _ (Ne.symm hCJ) hst₇
              have stI₈ : IsRangeIter h₈ I ((i : Int) + 1) ((n0 : Int) - i - 1) 1 := hs₈.extBut _ _ hCI (hs₇.extBut _ _ hIJ hstI)
              have N₈ : News h₀ L h₈ ([(J, rIter ((j : Int) + 1) ((n1 i : Int) - j - 1)), (I, rIter ((i : Int) + 1) ((n0 : Int) - i - 1)), (C, oC₈), (D, lst ys')] ++ nw') := fun p hp => by
                rcases List.mem_cons.mp hp with rfl | hp
                · exact ⟨stJ₈, Ne.symm hJL, hJ0⟩
                · rcases List.mem_cons.mp hp with rfl | hp
                  · exact ⟨stI₈, Ne.symm hIL, hI0⟩
                  · rcases List.mem_cons.mp hp with rfl | hp
                    · exact ⟨heC₈, hCL, hC₀⟩
                    · have q : p.1 ≠ J ∧ p.1 ≠ C := by
                        rcases List.mem_cons.mp hp with rfl | hp
                        · exact ⟨hDJ, hDC⟩
                        · exact ⟨fun e => off₆ p hp (by simp [e]), fun e => off₆ p hp (by simp [e])⟩
                      exact ⟨hs₈.extBut _ _ q.2 (hs₇.extBut _ _ q.1 (N₆ p hp).1), (N₆ p hp).2⟩
              refine wpAny_mono (hTurn i j I _ J _ C oC₈ D ys' nw' _ tI t₇ h₈ _ _ hlt hjt hV₆ hoC₈ (by simp [hxx, hmI]) (by simp) F₈ N₈) (fun ok s₉ q => ?_) fun _ _ e => e
              -- a turn's end, with the list as it stands
              have fin : ∀ (ys'' : List Value) (P : Prop), (∀ h' tk' nw'', Fr h₀ L h' m → News h₀ L h' ([(J, rIter ((j : Int) + 1) ((n1 i : Int) - j - 1)), (I, rIter ((i : Int) + 1) ((n0 : Int) - i - 1)), (C, oC₈), (D, lst ys'')] ++ nw'') → OffAll [J, I, C, D] nw'' → Inv i (j + 1) ys'' nw'' →
                  ∃ m₁, m₁ < n1 i + 1 - j ∧ ∃ h₁ tk j ys m₁' nw, ({ s with heap := h', toks := tk' } : Shared) = { s with heap := h₁, toks := tk } ∧ j ≤ n1 i ∧ m₁ = n1 i + 1 - j ∧ IsRangeIter h₁ J (j : Int) ((n1 i : Int) - j) 1 ∧ IsRangeIter h₁ I ((i : Int) + 1) ((n0 : Int) - i - 1) 1 ∧ Fr h₀ L h₁ m ∧ (∃ t, m₁' x0 = some (.int (i : Int) t)) ∧ h₁.Ns C m₁' ∧ News h₀ L h₁ ((D, lst ys) :: nw) ∧ OffAll [J, I, C, D] nw ∧ Inv i j ys nw) := by
                intro ys'' _ h' tk' nw'' F9 N9 o9 V9
                have e1 : ((j + 1 : Nat) : Int) = (j : Int) + 1 := by omega
                have e2 : (n1 i : Int) - ((j + 1 : Nat) : Int) = (n1 i : Int) - j - 1 := by omega
                refine ⟨n1 i + 1 - (j + 1), by omega, h', tk', j + 1, ys'', _, nw'', rfl, hjt, rfl, ?_, (N9 (I, _) (List.Mem.tail _ (List.Mem.head _))).1, F9, ⟨tI, ?_⟩, hoC₈.ns (N9 (C, oC₈) (by simp)).1, fun p hp => N9 p (by simp only [List.cons_append, List.nil_append]; exact List.mem_cons_of_mem _ (List.mem_cons_of_mem _ (List.mem_cons_of_mem _ hp))), o9, V9⟩
                · rw [e1, show (n1 i : Int) - ((j : Int) + 1) = (n1 i : Int) - j - 1 by omega]; exact (N9 (J, _) (List.Mem.head _)).1
                · simp [hxx, hmI]
              cases ok with
              | false =>
                simp only [Bool.false_eq_true, if_false] at q ⊢
                obtain ⟨h9, tk9, add, rfl, F9, N9, oa, V9⟩ := q
                refine fin ys' True h9 tk9 (add ++ nw') F9 (fun p hp => N9 p ?_) ?_ V9
                · simp only [List.mem_append] at hp ⊢; rcases hp with hp | hp | hp <;> simp [hp]
                · intro p hp
                  rcases List.mem_append.mp hp with hp | hp
                  · exact oa p hp
                  · exact off₆ p hp
              | true =>
                simp only [if_true] at q ⊢
                refine wpAny_mono q (fun y s10 q => ?_) fun _ _ e => e
                obtain ⟨h9, tk9, add, rfl, F9, N9, oa, V9⟩ := q
                have zD : h9.get? D = some (lst ys') := (N9 (D, lst ys') (by simp)).1
                refine append_at (hsz := by show ys'.toArray.size ≤ sizeLine; rw [List.size_toArray]; exact hLen _ _ _ _ hV₆) zD fun h10 hs10 hD10 => ?_
                have off10 : OffAll [J, I, C, D] (add ++ nw') := by
                  intro p hp
                  rcases List.mem_append.mp hp with hp | hp
                  · exact oa p hp
                  · exact off₆ p hp
                refine fin (ys' ++ [y]) True h10 _ (add ++ nw') (F9.change hs10 hDL hD₀) (fun p hp => ?_) off10 V9
                simp only [List.cons_append, List.nil_append] at hp
                have old9 : ∀ q ∈ add ++ ([(J, rIter ((j : Int) + 1) ((n1 i : Int) - j - 1)), (I, rIter ((i : Int) + 1) ((n0 : Int) - i - 1)), (C, oC₈), (D, lst ys')] ++ nw'), q.1 ≠ D → h10.get? q.1 = some q.2 ∧ q.1 ≠ L ∧ h₀.get? q.1 = none := fun q hq hne => ⟨hs10.extBut _ _ hne (N9 q hq).1, (N9 q hq).2⟩
                rcases List.mem_cons.mp hp with rfl | hp
                · exact old9 _ (by simp) (Ne.symm hDJ)
                · rcases List.mem_cons.mp hp with rfl | hp
                  · exact old9 _ (by simp) hDI
                  · rcases List.mem_cons.mp hp with rfl | hp
                    · exact old9 _ (by simp) (Ne.symm hDC)
                    · rcases List.mem_cons.mp hp with rfl | hp
                      · exact ⟨hD10.trans (congrArg some (lst_snoc ys' y)), hDL, hD₀⟩
                      · refine old9 p ?_ fun e => off10 p hp (by simp [e])
                        rcases List.mem_append.mp hp with hp | hp <;> simp [hp]
            · obtain rfl : j = n1 i := Nat.le_antisymm hj (Nat.not_lt.mp hjt)
              refine wpAny_pyNext_range_end hh hstJ (by omega) fun h₇ he₇ => ?_
              have kJ : ∀ b o, b ≠ J → h₆.get? b = some o → h₇.get? b = some o := fun b o hb e => he₇ b o hb e
              have e1 : ((i + 1 : Nat) : Int) = (i : Int) + 1 := by omega
              have e2 : (n0 : Int) - ((i + 1 : Nat) : Int) = (n0 : Int) - i - 1 := by omega
              refine ⟨n0 + 1 - (i + 1), by omega, h₇, tk₆, i + 1, ys', m₆, nw', rfl, hlt, rfl, ?_, ?_, hn₆.at' fun o e => kJ _ o hCJ e, fun p hp => ?_, fun p hp hb => off₆ p hp (List.mem_cons_of_mem _ hb), hNext i _ _ hlt hV₆⟩
              · rw [e1, show (n0 : Int) - ((i : Int) + 1) = (n0 : Int) - i - 1 by omega]; exact kJ _ _ hIJ hstI
              · exact ⟨F₆.ns.at' fun o e => kJ _ o hJL e, fun b o e => kJ b o (fun q => by rw [q, hJ0] at e; cases e) (F₆.keep b o e), F₆.above⟩
              · refine ⟨kJ _ _ ?_ (N₆ p hp).1, (N₆ p hp).2⟩
                rcases List.mem_cons.mp hp with rfl | hp
                · exact hDJ
                · exact fun e => off₆ p hp (by simp [e])
          · show IsRangeIter H5 J ((0 : Nat) : Int) ((n1 i : Int) - ((0 : Nat) : Int)) 1
            simpa using hIt5
          · rcases List.mem_cons.mp hp with rfl | hp
            · exact .inl (by simp)
            · exact .inr hp
          · intro p hp hb
            rcases List.mem_cons.mp hb with hb | hb
            · exact offJ p (List.mem_append.mpr (.inr hp)) hb
            · exact off' p hp hb
        exact start_two1 (inner _ rfl) (wpAny_pyIter_rangeiter hIt5 (inner _ rfl))
      · obtain rfl : i = n0 := Nat.le_antisymm hi (Nat.not_lt.mp hlt)
        refine wpAny_pyNext_range_end hh hst (by omega) fun h₂ he₂ => ?_
        have kI : ∀ b o, b ≠ I → h'.get? b = some o → h₂.get? b = some o := fun b o hb e => he₂ b o hb e
        have F₂ : Fr h₀ L h₂ m := ⟨F'.ns.at' fun o e => kI _ o hIL e, fun b o e => kI b o (fun q => by rw [q, hI0] at e; cases e) (F'.keep b o e), F'.above⟩
        refine ⟨m', hn'.at' fun o e => kI _ o (Ne.symm hCI) e, fun h₃ hs₃ => hFin D ys nw h₃ tk hV (F₂.change hs₃ hCL hC₀) (fun p hp => ?_) fun p hp hb => off' p hp (by simp at hb; simp [hb])⟩
        have q : p.1 ≠ I ∧ p.1 ≠ C := by
          rcases List.mem_cons.mp hp with rfl | hp
          · exact ⟨Ne.symm hDI, hDC⟩
          · exact ⟨fun e => off' p hp (by simp [e]), fun e => off' p hp (by simp [e])⟩
        exact ⟨hs₃.extBut _ _ q.2 (kI _ _ q.1 (N' p hp).1), (N' p hp).2⟩
    · show IsRangeIter H3 I ((0 : Nat) : Int) ((n0 : Int) - ((0 : Nat) : Int)) 1
      simpa using old _ _ hIt1
    · intro p hp
      rcases List.mem_cons.mp hp with rfl | hp
      · exact ⟨hacc, hDL, hD₀⟩
      · exact ⟨old _ _ (N1 p hp).1, (N1 p hp).2⟩
  exact codeAny_compStart_list (loop _ rfl) (wpAny_pyIter_rangeiter (old _ _ hIt1) (loop _ rfl))
end

/-- a turn's end of a loop over a list of the base: the iterator lies ahead -/
noncomputable def LPost (h₀ : Heap) (L : Addr) (s : Shared) (I : Addr) (oI : Obj) (J : (Str → Option Value) → List (Addr × Obj) → Prop) (Q : Flow → Shared → Prop) (f : Flow) (s₂ : Shared) : Prop :=
  match f with
  | .ret v => Q (.ret v) s₂
  | .brk => Q .next s₂
  | _ => ∃ h' tk' m' nx, s₂ = { s with heap := h', toks := tk' } ∧ Fr h₀ L h' m' ∧ News h₀ L h' ((I, oI) :: nx) ∧ (∀ p ∈ nx, p.1 ≠ I) ∧ J m' nx

section
variable {prog : Program} {w : World} {A : Around} {E : Value → Shared → Prop} {s : Shared} {h₀ : Heap} {m : Str → Option Value} {env : Env}

theorem For_base {target : Expr} {pos : Pos} {iter : Expr} {body : List Stmt} {Q : Flow → Shared → Prop} {l : Addr} {vs : List Value} {news : List (Addr × Obj)}
    (J : Nat → (Str → Option Value) → List (Addr × Obj) → Prop) (Bd : Nat → (Str → Option Value) → (Str → Option Value) → Prop)
    (hh : A.handled = none) (hmark : A.mark none = A) (F₀ : Fr h₀ env.locals s.heap m) (N₀ : News h₀ env.locals s.heap news) (hl : h₀.IsList l vs.toArray)
    (hs : ∀ x, foldedSetIterable iter env x = pure x)
    (hev : wpAny (model prog w) A (eval iter env) (fun xv s₁ => xv = .ref l ∧ ∃ tk, s₁ = { s with toks := tk }) (fun _ _ => False) s)
    (hj : J 0 m news)
    (hassign : ∀ i v m₁ nx h tk I oI (Q' : Unit → Shared → Prop), i < vs.length → vs[i]? = some v → h.IsListIter I l (i + 1) → Fr h₀ env.locals h m₁ → News h₀ env.locals h ((I, oI) :: nx) →
      (∀ h' tk' m₂, Bd i m₁ m₂ → Fr h₀ env.locals h' m₂ → News h₀ env.locals h' ((I, oI) :: nx) → Q' () { s with heap := h', toks := tk' }) →
      wpAny (model prog w) A (letOwnedTupleGo target (.ref I) v) (fun _ s₁ => wpAny (model prog w) A (assign target env v) Q' (fun _ _ => False) s₁) (fun _ _ => False) { s with heap := h, toks := tk })
    (turn : ∀ i m₁ m₂ nx h tk I oI, i < vs.length → J i m₁ nx → Bd i m₁ m₂ → Fr h₀ env.locals h m₂ → News h₀ env.locals h ((I, oI) :: nx) → (∀ p ∈ nx, p.1 ≠ I) →
      wpAny (model prog w) A (execs body env) (LPost h₀ env.locals { s with heap := h, toks := tk } I oI (J (i + 1)) Q) (fun _ _ => False) { s with heap := h, toks := tk })
    (done : ∀ m₁ nx h tk, J vs.length m₁ nx → Fr h₀ env.locals h m₁ → News h₀ env.locals h nx → Q .next { s with heap := h, toks := tk }) :
    wpAny (model prog w) A (exec (.For target iter body [] pos) env) Q E s := by
  refine wpAny_noRaise (wpAny_For (wpAny_mono hev (fun xv s₁ q => ?_) fun _ _ e => e) hs)
  obtain ⟨rfl, tk₁, rfl⟩ := q
  have hls : s.heap.IsList l vs.toArray := hl.at fun o e => F₀.keep l o e
  have hlt : l < h₀.objs.size := by obtain ⟨o, e, _⟩ := hl; exact Heap.lt_size e
  refine wpAny_pyIter_list hls ?_
  dsimp only
  generalize hI : s.heap.objs.size = I
  generalize hH : s.heap.push { cls := .type "list_iterator", data := .fields #[.ref l, .int 0 0] } = H
  have hIt : H.IsListIter I l 0 := by rw [← hH, ← hI]; exact ⟨_, Heap.get?_push_size _ rfl, rfl, rfl⟩
  have up : ∀ b o, s.heap.get? b = some o → H.get? b = some o := fun b o e => hH ▸ Heap.get?_push_of_some _ e
  have F : Fr h₀ env.locals H m := F₀.keeps up
  have N : News h₀ env.locals H news := N₀.grown up
  have hI0 : h₀.get? I = none := hI ▸ next_is_new F₀
  have hIL : env.locals ≠ I := hI ▸ Nat.ne_of_lt F₀.ns.lt
  have hlI : l ≠ I := fun e => by obtain ⟨o, q, _⟩ := hl; rw [e, hI0] at q; cases q
  have offI : ∀ p ∈ news, p.1 ≠ I := fun p hp => hI ▸ Nat.ne_of_lt (Heap.lt_size (N₀ p hp).1)
  have hlH : ∀ h, Fr h₀ env.locals h m → True := fun _ _ => trivial
  refine codeAny_forLoop_any (fun k s' => ∃ h' tk i m' nx, s' = { s with heap := h', toks := tk } ∧ i ≤ vs.length ∧ k = vs.length + 1 - i ∧ h'.IsListIter I l i ∧ Fr h₀ env.locals h' m' ∧ News h₀ env.locals h' nx ∧ (∀ p ∈ nx, p.1 ≠ I) ∧ J i m' nx) ?_ (vs.length + 1)
    ⟨H, _, 0, m, news, rfl, Nat.zero_le _, rfl, hIt, F, N, offI, hj⟩
  rintro k s' ⟨h', tk, i, m', nx, rfl, hi, rfl, hit, F', N', off', hJ⟩
  have hl' : h'.IsList l vs.toArray := hl.at fun o e => F'.keep l o e
  by_cases hlt' : i < vs.length
  · refine wpAny_pyNext_list_item hit hl' (x := vs[i]) (by simp [hlt']) fun h₂ hit₂ hs₂ => ?_
    have F₂ : Fr h₀ env.locals h₂ m' := F'.change hs₂ (Ne.symm hIL) hI0
    obtain ⟨oI, heI, hrI⟩ := id hit₂
    have N₂ : News h₀ env.locals h₂ ((I, oI) :: nx) := fun p hp => by
      rcases List.mem_cons.mp hp with rfl | hp
      · exact ⟨heI, Ne.symm hIL, hI0⟩
      · exact ⟨hs₂.extBut _ _ (off' p hp) (N' p hp).1, (N' p hp).2⟩
    have core := hassign i vs[i] m' nx h₂ tk I oI (fun _ s₂ => wpAny (model prog w) A (execs body env) (fun f s₃ => match f with
        | .next | .cont => ∃ m, m < vs.length + 1 - i ∧ ∃ h' tk i m' nx, s₃ = { s with heap := h', toks := tk } ∧ i ≤ vs.length ∧ m = vs.length + 1 - i ∧ h'.IsListIter I l i ∧ Fr h₀ env.locals h' m' ∧ News h₀ env.locals h' nx ∧ (∀ p ∈ nx, p.1 ≠ I) ∧ J i m' nx
        | .brk => Q .next s₃
        | .ret v => Q (.ret v) s₃) (fun _ _ => False) s₂) hlt' (by simp [hlt']) hit₂ F₂ N₂ (fun h₃ tk₃ m₂ hB F₃ N₃ => ?_)
    · refine wpAny_mono core (fun _ s₁ h₁ => wpAny_mono h₁ (fun _ s₂ h₂ => wpAny_mono h₂ (fun f s₃ h₃ => ?_) fun _ _ e => e.elim) fun _ _ e => e.elim) fun _ _ e => e.elim
      cases f <;> exact h₃
    · refine wpAny_mono (turn i m' m₂ nx h₃ tk₃ I oI hlt' hJ hB F₃ N₃ off') (fun f s₃ h₃ => ?_) fun _ _ e => e
      have fin : (∃ h' tk' m' nx, s₃ = { s with heap := h', toks := tk' } ∧ Fr h₀ env.locals h' m' ∧ News h₀ env.locals h' ((I, oI) :: nx) ∧ (∀ p ∈ nx, p.1 ≠ I) ∧ J (i + 1) m' nx) →
          ∃ m, m < vs.length + 1 - i ∧ ∃ h' tk i m' nx, s₃ = { s with heap := h', toks := tk } ∧ i ≤ vs.length ∧ m = vs.length + 1 - i ∧ h'.IsListIter I l i ∧ Fr h₀ env.locals h' m' ∧ News h₀ env.locals h' nx ∧ (∀ p ∈ nx, p.1 ≠ I) ∧ J i m' nx := by
        rintro ⟨h4, tk4, m4, nx4, rfl, F4, N4, o4, J4⟩
        exact ⟨vs.length + 1 - (i + 1), by omega, h4, tk4, i + 1, m4, nx4, rfl, hlt', rfl, ⟨oI, (N4 _ (List.Mem.head _)).1, hrI⟩, F4, fun p hp => N4 p (List.mem_cons_of_mem _ hp), o4, J4⟩
      cases f with
      | ret v => exact h₃
      | brk => exact h₃
      | next => exact fin h₃
      | cont => exact fin h₃
  · obtain rfl : i = vs.length := Nat.le_antisymm hi (Nat.not_lt.mp hlt')
    refine wpAny_pyNext_list_end hh hit hl' (by simp) fun h₂ he₂ => ?_
    have kI : ∀ b o, b ≠ I → h'.get? b = some o → h₂.get? b = some o := fun b o hb e => he₂ b o hb e
    exact wpAny_pure (done m' nx h₂ tk hJ ⟨F'.ns.at' fun o e => kI _ o hIL e, fun b o e => kI b o (fun q => by rw [q, hI0] at e; cases e) (F'.keep b o e), F'.above⟩ fun p hp => ⟨kI _ _ (off' p hp) (N' p hp).1, (N' p hp).2⟩)

theorem For_vals {x : Str} {px pos : Pos} {iter : Expr} {body : List Stmt} {Q : Flow → Shared → Prop} {l : Addr} {vs : List Value} {news : List (Addr × Obj)}
    (J : Nat → (Str → Option Value) → List (Addr × Obj) → Prop)
    (hh : A.handled = none) (hmark : A.mark none = A) (F₀ : Fr h₀ env.locals s.heap m) (N₀ : News h₀ env.locals s.heap news) (hl : h₀.IsList l vs.toArray)
    (hs : ∀ x, foldedSetIterable iter env x = pure x) (hx : env.kindOf x = some .local) (hp : (env.scope.kind == .class || (env.scope.kind == .module && env.locals != env.globals)) = false)
    (hev : wpAny (model prog w) A (eval iter env) (fun xv s₁ => xv = .ref l ∧ ∃ tk, s₁ = { s with toks := tk }) (fun _ _ => False) s)
    (hj : J 0 m news)
    (turn : ∀ i v m₁ nx h tk I oI, i < vs.length → vs[i]? = some v → J i m₁ nx → Fr h₀ env.locals h (fun y => if y = x then some v else m₁ y) → News h₀ env.locals h ((I, oI) :: nx) → (∀ p ∈ nx, p.1 ≠ I) →
      wpAny (model prog w) A (execs body env) (LPost h₀ env.locals { s with heap := h, toks := tk } I oI (J (i + 1)) Q) (fun _ _ => False) { s with heap := h, toks := tk })
    (done : ∀ m₁ nx h tk, J vs.length m₁ nx → Fr h₀ env.locals h m₁ → News h₀ env.locals h nx → Q .next { s with heap := h, toks := tk }) :
    wpAny (model prog w) A (exec (.For (.Name x px) iter body [] pos) env) Q E s := by
  refine For_base J (fun i m₁ m₂ => ∃ v, vs[i]? = some v ∧ m₂ = fun y => if y = x then some v else m₁ y) hh hmark F₀ N₀ hl hs hev hj ?_ ?_ done
  · intro i v m₁ nx h tk I oI Q' hi hv hit F N hQ
    refine wpAny_mono (Q := fun _ s' => s' = { s with heap := h, toks := tk }) (wpAny_pure rfl) (fun _ s₁ e => ?_) fun _ _ e => e
    rw [e]
    exact wpAny_assign_Name (wpAny_storeName_local hx F.ns (fun h' hn hs' => hQ h' _ _ ⟨v, hv, rfl⟩ (F.set hn hs') (N.set hs')) hp)
  · rintro i m₁ m₂ nx h tk I oI hi hJ ⟨v, hv, rfl⟩ F N off
    exact turn i v m₁ nx h tk I oI hi hv hJ F N off

theorem For_pairs {x0 x1 : Str} {p0 p1 tp pos : Pos} {x2} {iter : Expr} {body : List Stmt} {Q : Flow → Shared → Prop} {l : Addr} {vs : List Value} {ps : List (Nat × Nat)} {news : List (Addr × Obj)}
    (J : Nat → (Str → Option Value) → List (Addr × Obj) → Prop)
    (hh : A.handled = none) (hmark : A.mark none = A) (F₀ : Fr h₀ env.locals s.heap m) (N₀ : News h₀ env.locals s.heap news) (hl : h₀.IsList l vs.toArray) (hps : PairsAt h₀ vs ps)
    (hs : ∀ x, foldedSetIterable iter env x = pure x) (hx0 : env.kindOf x0 = some .local) (hx1 : env.kindOf x1 = some .local) (hp : (env.scope.kind == .class || (env.scope.kind == .module && env.locals != env.globals)) = false)
    (hev : wpAny (model prog w) A (eval iter env) (fun xv s₁ => xv = .ref l ∧ ∃ tk, s₁ = { s with toks := tk }) (fun _ _ => False) s)
    (hj : J 0 m news)
    (turn : ∀ i p t u m₁ nx h tk I oI, ps[i]? = some p → J i m₁ nx → Fr h₀ env.locals h (fun y => if y = x1 then some (.int p.2 u) else if y = x0 then some (.int p.1 t) else m₁ y) → News h₀ env.locals h ((I, oI) :: nx) → (∀ p ∈ nx, p.1 ≠ I) →
      wpAny (model prog w) A (execs body env) (LPost h₀ env.locals { s with heap := h, toks := tk } I oI (J (i + 1)) Q) (fun _ _ => False) { s with heap := h, toks := tk })
    (done : ∀ m₁ nx h tk, J ps.length m₁ nx → Fr h₀ env.locals h m₁ → News h₀ env.locals h nx → Q .next { s with heap := h, toks := tk }) :
    wpAny (model prog w) A (exec (.For (.Tuple [.Name x0 p0, .Name x1 p1] x2 tp) iter body [] pos) env) Q E s := by
  refine For_base J (fun i m₁ m₂ => ∃ p t u, ps[i]? = some p ∧ m₂ = fun y => if y = x1 then some (.int (p.2 : Nat) u) else if y = x0 then some (.int (p.1 : Nat) t) else m₁ y) hh hmark F₀ N₀ hl hs hev hj ?_ ?_ (hps.1 ▸ done)
  · intro i v m₁ nx h tk I oI Q' hi hv hit F N hQ
    obtain ⟨v', hv', a, t, u, n, rfl, ha⟩ := hps.2 i (ps[i]'(hps.1 ▸ hi)) (List.getElem?_eq_getElem _)
    rw [hv] at hv'
    cases hv'
    refine wpAny_letOwnedTupleGo_listiter hit ?_
    refine assign_Tuple_tuple (items := #[_, _]) hh ⟨_, F.keep _ _ ha, rfl, _, rfl⟩ rfl rfl fun h₃ he => ?_
    have up : ∀ b o, h.get? b = some o → h₃.get? b = some o := fun b o e => he b o (Nat.ne_of_lt (Heap.lt_size e)) e
    have F₃ := F.keeps up
    have N₃ := N.grown up
    refine assignInOrder_cons (wpAny_assign_Name (wpAny_storeName_local hx0 F₃.ns (fun h₄ hn₄ hs₄ => ?_) hp))
    have F₄ := F₃.set hn₄ hs₄
    have N₄ := N₃.set hs₄
    refine assignInOrder_cons (wpAny_assign_Name (wpAny_storeName_local hx1 F₄.ns (fun h₅ hn₅ hs₅ => ?_) hp))
    exact assignInOrder_nil (hQ h₅ _ _ ⟨_, t, u, List.getElem?_eq_getElem _, rfl⟩ (F₄.set hn₅ hs₅) (N₄.set hs₅))
  · rintro i m₁ m₂ nx h tk I oI hi hJ ⟨p, t, u, hv, rfl⟩ F N off
    exact turn i p t u m₁ nx h tk I oI hv hJ F N off

/-- the frame outside the stored names -/
noncomputable def Same (stored : List Str) (m₀ m : Str → Option Value) : Prop := ∀ z, stored.contains z = false → m z = m₀ z
theorem Same.refl {stored : List Str} {m₀ : Str → Option Value} : Same stored m₀ m₀ := fun _ _ => rfl
noncomputable def stB (stored : List Str) (um m₀ : Str → Option Value) : Str → Option Value := fun y => if stored.contains y then um y else m₀ y
theorem Same.eq {stored : List Str} {m₀ m : Str → Option Value} (h : Same stored m₀ m) : m = stB stored m m₀ := by
  funext y
  unfold stB
  cases e : stored.contains y with
  | true => simp
  | false => simp only [Bool.false_eq_true, if_false]; exact h y e

theorem For_vals2 {x : Str} {px pos : Pos} {iter : Expr} {body : List Stmt} {Q : Flow → Shared → Prop} {l : Addr} {vs : List Value} {news : List (Addr × Obj)}
    (stored : List Str) (J : Nat → List (Addr × Obj) → Prop)
    (hh : A.handled = none) (hmark : A.mark none = A) (F₀ : Fr h₀ env.locals s.heap m) (N₀ : News h₀ env.locals s.heap news) (hl : h₀.IsList l vs.toArray)
    (hs : ∀ x, foldedSetIterable iter env x = pure x) (hx : env.kindOf x = some .local) (hp : (env.scope.kind == .class || (env.scope.kind == .module && env.locals != env.globals)) = false)
    (hev : wpAny (model prog w) A (eval iter env) (fun xv s₁ => xv = .ref l ∧ ∃ tk, s₁ = { s with toks := tk }) (fun _ _ => False) s)
    (hj : J 0 news)
    (turn : ∀ i v um nx h tk I oI, i < vs.length → vs[i]? = some v → J i nx → Fr h₀ env.locals h (fun y => if y = x then some v else stB stored um m y) → News h₀ env.locals h ((I, oI) :: nx) → (∀ p ∈ nx, p.1 ≠ I) →
      wpAny (model prog w) A (execs body env) (LPost h₀ env.locals { s with heap := h, toks := tk } I oI (fun m' nx => Same (x :: stored) m m' ∧ J (i + 1) nx) Q) (fun _ _ => False) { s with heap := h, toks := tk })
    (done : ∀ um nx h tk, J vs.length nx → Fr h₀ env.locals h (stB (x :: stored) um m) → News h₀ env.locals h nx → Q .next { s with heap := h, toks := tk }) :
    wpAny (model prog w) A (exec (.For (.Name x px) iter body [] pos) env) Q E s := by
  refine For_vals (fun i m' nx => Same (x :: stored) m m' ∧ J i nx) hh hmark F₀ N₀ hl hs hx hp hev ⟨Same.refl, hj⟩ ?_ ?_
  · rintro i v m₁ nx h tk I oI hi hv ⟨hS, hJ⟩ F N off
    have e : (fun y => if y = x then some v else m₁ y) = fun y => if y = x then some v else stB stored m₁ m y := by
      funext y
      by_cases hy : y = x
      · rw [if_pos hy, if_pos hy]
      · rw [if_neg hy, if_neg hy]
        unfold stB
        cases e : stored.contains y with
        | true => simp
        | false =>
          simp only [Bool.false_eq_true, if_false]
          exact hS y (by rw [List.contains_cons, e]; simpa using hy)
    rw [e] at F
    exact turn i v m₁ nx h tk I oI hi hv hJ F N off
  · rintro m₁ nx h tk ⟨hS, hJ⟩ F N
    rw [hS.eq] at F
    exact done m₁ nx h tk hJ F N

theorem For_pairs2 {x0 x1 : Str} {p0 p1 tp pos : Pos} {x2} {iter : Expr} {body : List Stmt} {Q : Flow → Shared → Prop} {l : Addr} {vs : List Value} {ps : List (Nat × Nat)} {news : List (Addr × Obj)}
    (stored : List Str) (J : Nat → List (Addr × Obj) → Prop)
    (hh : A.handled = none) (hmark : A.mark none = A) (F₀ : Fr h₀ env.locals s.heap m) (N₀ : News h₀ env.locals s.heap news) (hl : h₀.IsList l vs.toArray) (hps : PairsAt h₀ vs ps)
    (hs : ∀ x, foldedSetIterable iter env x = pure x) (hx0 : env.kindOf x0 = some .local) (hx1 : env.kindOf x1 = some .local) (hp : (env.scope.kind == .class || (env.scope.kind == .module && env.locals != env.globals)) = false)
    (hev : wpAny (model prog w) A (eval iter env) (fun xv s₁ => xv = .ref l ∧ ∃ tk, s₁ = { s with toks := tk }) (fun _ _ => False) s)
    (hj : J 0 news)
    (turn : ∀ i p t u um nx h tk I oI, ps[i]? = some p → J i nx → Fr h₀ env.locals h (fun y => if y = x1 then some (.int (p.2 : Nat) u) else if y = x0 then some (.int (p.1 : Nat) t) else stB stored um m y) → News h₀ env.locals h ((I, oI) :: nx) → (∀ p ∈ nx, p.1 ≠ I) →
      wpAny (model prog w) A (execs body env) (LPost h₀ env.locals { s with heap := h, toks := tk } I oI (fun m' nx => Same (x1 :: x0 :: stored) m m' ∧ J (i + 1) nx) Q) (fun _ _ => False) { s with heap := h, toks := tk })
    (done : ∀ um nx h tk, J ps.length nx → Fr h₀ env.locals h (stB (x1 :: x0 :: stored) um m) → News h₀ env.locals h nx → Q .next { s with heap := h, toks := tk }) :
    wpAny (model prog w) A (exec (.For (.Tuple [.Name x0 p0, .Name x1 p1] x2 tp) iter body [] pos) env) Q E s := by
  refine For_pairs (fun i m' nx => Same (x1 :: x0 :: stored) m m' ∧ J i nx) hh hmark F₀ N₀ hl hps hs hx0 hx1 hp hev ⟨Same.refl, hj⟩ ?_ ?_
  · rintro i p t u m₁ nx h tk I oI hv ⟨hS, hJ⟩ F N off
    have e : (fun y => if y = x1 then some (Value.int (p.2 : Nat) u) else if y = x0 then some (Value.int (p.1 : Nat) t) else m₁ y) = fun y => if y = x1 then some (Value.int (p.2 : Nat) u) else if y = x0 then some (Value.int (p.1 : Nat) t) else stB stored m₁ m y := by
      funext y
      by_cases hy : y = x1
      · rw [if_pos hy, if_pos hy]
      · rw [if_neg hy, if_neg hy]
        by_cases hy0 : y = x0
        · rw [if_pos hy0, if_pos hy0]
        · rw [if_neg hy0, if_neg hy0]
          unfold stB
          cases e : stored.contains y with
          | true => simp
          | false =>
            simp only [Bool.false_eq_true, if_false]
            refine hS y ?_
            rw [List.contains_cons, List.contains_cons, e]
            simp [hy, hy0]
    rw [e] at F
    exact turn i p t u m₁ nx h tk I oI hv hJ F N off
  · rintro m₁ nx h tk ⟨hS, hJ⟩ F N
    rw [hS.eq] at F
    exact done m₁ nx h tk hJ F N
end

/-- xs[:] of a list of ints -/
theorem copy_ints {prog : Program} {w : World} {A : Around} {E : Value → Shared → Prop} {s : Shared} {h₀ : Heap} {L l : Addr} {m : Str → Option Value} {news : List (Addr × Obj)} {value slice : PySem.Expr} {vs : List Value} {ns : List Int} {k : Nat} {Q : Value → Shared → Prop}
    (F : Fr h₀ L s.heap m) (N : News h₀ L s.heap news) (hl : s.heap.IsList l vs.toArray) (hi' : IntsAre vs ns) (hk : ns.length = k) (hz : k ≤ sizeLine)
    (h : ∀ D ws h', Fr h₀ L h' m → News h₀ L h' ((D, listOf (List.toArray ws) 0) :: news) → (∀ p ∈ news, p.1 < D) → IntsAre ws ns → Q (.ref D) { s with heap := h' })
    (hs : subscripted slice false (.ref l) (.ref s.heap.objs.size) = operate [.ref s.heap.objs.size, .ref l] (getItem (.ref l) (.ref s.heap.objs.size))) (ht : ∀ r, letTemporaryGo value (.ref l) r = pure ()) :
    wpAny (model prog w) A (subscriptTail value slice (.ref l) (.ref s.heap.objs.size)) Q E { s with heap := s.heap.push { cls := .type "slice", data := .fields #[.none, .none, .none] } } := by
  have e : slicePick vs.toArray none none none = vs.toArray := by
    have e' : sliceBounds none none none vs.toArray.size = (((0 : Nat) : Int), ((vs.toArray.size : Nat) : Int), 1) := by
      simp [sliceBounds]
    rw [kmk_pick_nat _ e']
    simp
  have hm : IntsAre (slicePick vs.toArray none none none).toList ns := by rw [e]; exact hi'
  exact kmk_slice_ints F N hl .none .none hi' hm rfl (fun D ws h' F' N' l1 i1 _ _ => h D ws h' F' N' l1 i1) hs ht (by rw [List.size_toArray, hi'.length, hk]; exact hz)
end

section
open PySem PySem.W PySem.Calls PyProof.Rows PyProof.Rows.LCg
set_option maxRecDepth 100000
/-- the values are pairs whose tuples lie in tl -/
noncomputable def PairsIn (tl : List (Addr × Obj)) (ys : List Value) (ps : List (Nat × Nat)) : Prop :=
  ys.length = ps.length ∧ ∀ (k : Nat) (p : Nat × Nat), ps[k]? = some p → ∃ a t u n, ys[k]? = some (.ref a) ∧ (a, pairOf p.1 p.2 t u n) ∈ tl
theorem PairsIn.nil {tl} : PairsIn tl [] [] := ⟨rfl, fun k p h => by simp at h⟩
theorem PairsIn.mono {tl tl' : List (Addr × Obj)} {ys ps} (h : PairsIn tl ys ps) (hs : ∀ p ∈ tl, p ∈ tl') : PairsIn tl' ys ps :=
  ⟨h.1, fun k p hk => let ⟨a, t, u, n, e, hm⟩ := h.2 k p hk; ⟨a, t, u, n, e, hs _ hm⟩⟩
theorem PairsIn.snoc {tl : List (Addr × Obj)} {ys : List Value} {ps : List (Nat × Nat)} {a : Addr} {i j : Nat} {t u : Tok} {n : Nat} (h : PairsIn tl ys ps) (hm : (a, pairOf i j t u n) ∈ tl) : PairsIn tl (ys ++ [.ref a]) (ps ++ [(i, j)]) := by
  refine ⟨by simp [h.1], fun k p hk => ?_⟩
  by_cases hl : k < ps.length
  · rw [List.getElem?_append_left hl] at hk
    rw [List.getElem?_append_left (by rw [h.1]; exact hl)]
    exact h.2 k p hk
  · have hk' : k = ps.length := by
      have := (List.getElem?_eq_some_iff.mp hk).1
      simp at this; omega
    subst hk'
    rw [List.getElem?_append_right (Nat.le_refl _)] at hk
    simp at hk
    subst hk
    exact ⟨a, t, u, n, by rw [← h.1, List.getElem?_append_right (Nat.le_refl _)]; simp, hm⟩
theorem PairsIn.at {h₀ h : Heap} {L : Addr} {tl : List (Addr × Obj)} {ys : List Value} {ps : List (Nat × Nat)} (P : PairsIn tl ys ps) (N : News h₀ L h tl) : PairsAt h ys ps :=
  ⟨P.1, fun k p hk => let ⟨a, t, u, n, e, hm⟩ := P.2 k p hk; ⟨_, e, a, t, u, n, rfl, (N _ hm).1⟩⟩

/-- what a call has made -/
noncomputable def NewObjs (h h' : Heap) (nw : List (Addr × Obj)) : Prop := ∀ p ∈ nw, h'.get? p.1 = some p.2 ∧ h.get? p.1 = none
theorem PairsIn.at' {h h' : Heap} {tl : List (Addr × Obj)} {ys : List Value} {ps : List (Nat × Nat)} (P : PairsIn tl ys ps) (N : NewObjs h h' tl) : PairsAt h' ys ps :=
  ⟨P.1, fun k p hk => let ⟨a, t, u, n, e, hm⟩ := P.2 k p hk; ⟨_, e, a, t, u, n, rfl, (N _ hm).1⟩⟩
theorem NewObjs.off {h₀ h h' : Heap} {L : Addr} {news nw : List (Addr × Obj)} (N : News h₀ L h news) (O : NewObjs h h' nw) : ∀ p ∈ news, ∀ q ∈ nw, p.1 ≠ q.1 := fun p hp q hq e => by
  have h1 := (N p hp).1
  rw [e, (O q hq).2] at h1
  cases h1
theorem NewObjs.news {h₀ h h' : Heap} {L : Addr} {m : Str → Option Value} {news nw : List (Addr × Obj)} (F : Fr h₀ L h m) (N : News h₀ L h news) (K : ∀ b o, h.get? b = some o → h'.get? b = some o) (O : NewObjs h h' nw) : News h₀ L h' (nw ++ news) := fun p hp => by
  rcases List.mem_append.mp hp with hp | hp
  · refine ⟨(O p hp).1, ?_, ?_⟩
    · intro e
      have h1 := (O p hp).2
      obtain ⟨o, h2, _⟩ := ns_obj F.ns
      rw [e, h2] at h1
      cases h1
    · cases e : h₀.get? p.1 with
      | none => rfl
      | some o => have h1 := F.keep _ _ e; rw [(O p hp).2] at h1; cases h1
  · exact ⟨K _ _ (N p hp).1, (N p hp).2⟩
theorem Here.push {w : World} {mean : ExcName → Option Value} {mg mb : Str → Option Value} {base : Heap} {dp un : Nat} {gd : Option (List Code)} {fr : List Env} {h₀ h : Heap} {env : Env} {m : Str → Option Value}
    (H : Here w mean mg mb base dp un gd fr h₀) (hd : dp + 21 < recursionLimit) (hu : un + 403 < cLine) (F : Fr h₀ env.locals h m) (hk : env.scope.kind = .function) (hf : env.frame = some env.locals) : Here w mean mg mb base (dp + 1) (un + 3) gd (env :: fr) h := by
  obtain ⟨X, T, B, _, _⟩ := H
  have hnew : base.get? env.locals = none := by
    cases hq : base.get? env.locals with
    | none => rfl
    | some o => exact absurd (Nat.lt_of_lt_of_le (Heap.lt_size (B.stays env.locals o hq)) F.above) (Nat.lt_irrefl _)
  have st : h₀.StaysIn h := fun b o e => F.keep b o e
  refine ⟨X.keeps st, T.keeps st, ⟨rfl, fun b o e => F.keep b o (B.stays b o e), ?_⟩, by omega, by omega⟩
  exact .cons (by rw [hk]; decide) hf F.ns hnew (B.frames.of_keeps fun b o e _ => ⟨o, F.keep b o e, rfl⟩)
end

local macro_rules | `(tactic| k_all) => `(tactic| ((rename OffAll _ _ => offX); exact fun p9 h9 e9 => offX p9 h9 (by first | exact e9 ▸ List.Mem.head _ | exact e9 ▸ List.Mem.tail _ (List.Mem.head _) | exact e9 ▸ List.Mem.tail _ (List.Mem.tail _ (List.Mem.head _)) | exact e9 ▸ List.Mem.tail _ (List.Mem.tail _ (List.Mem.tail _ (List.Mem.head _))))))

section
open PySem PySem.W PySem.Calls PyProof.Rows
set_option maxRecDepth 100000
set_option maxHeartbeats 2000000

noncomputable def uInv (c : Addr × Obj) (g i j : Nat) (ys : List Value) (nw : List (Addr × Obj)) : Prop := ∃ tl, nw = tl ++ [c] ∧ PairsIn tl ys (upTo g i j) ∧ i ≤ 6 ∧ j ≤ 6
theorem upTo_len (g i j : Nat) (hi : i ≤ 6) (hj : j ≤ 6) : (upTo g i j).length ≤ sizeLine := by
  refine Nat.le_trans (List.length_filter_le _ _) ?_
  have : ∀ i j : Fin 7, (upL i.val j.val).length ≤ 100 := by decide +kernel
  exact Nat.le_trans (this ⟨i, by omega⟩ ⟨j, by omega⟩) (by rw [sizeLine_eq]; decide)

theorem edge_of_ne {g i j : Nat} (h : Builtin.bitAnd (((rowsOf g).getD (i : Int).toNat 0).fdiv (2 ^ (j : Int).toNat)) 1 ≠ 0) (hi : i < 6) (hj : j < 6) : edge g i j = true := by
  rw [rows_bit (by omega) (by omega) (by omega) (by omega)] at h
  simp only [Int.toNat_natCast] at h
  cases e : edge g i j
  · rw [e] at h; exact absurd rfl h
  · rfl
theorem edge_of_eq {g i j : Nat} (h : Builtin.bitAnd (((rowsOf g).getD (i : Int).toNat 0).fdiv (2 ^ (j : Int).toNat)) 1 = 0) (hi : i < 6) (hj : j < 6) : edge g i j = false := by
  rw [rows_bit (by omega) (by omega) (by omega) (by omega)] at h
  simp only [Int.toNat_natCast] at h
  cases e : edge g i j
  · rfl
  · rw [e] at h; exact absurd h (by decide)

theorem untied_call {w : World} {mean : ExcName → Option Value} {mg mb : Str → Option Value} {base : Heap} {dp un : Nat} {gd : Option (List Code)} {fr : List Env} {s : Shared}
    {Q E : Value → Shared → Prop} {l : Addr} {vs : List Value} {g : Nat}
    (H : Here w mean mg mb base dp un gd fr s.heap) (hl : s.heap.IsList l vs.toArray) (hi : IntsAre vs (rowsOf g))
    (ret : ∀ l' vs' n h' tk' tl, (∀ b o, s.heap.get? b = some o → h'.get? b = some o) → NewObjs s.heap h' ((l', listOf vs'.toArray n) :: tl) → OffAll [l'] tl → PairsIn tl vs' (untiedOf g) → Q (.ref l') { s with heap := h', toks := tk' }) :
    wpAny (model PR w) (AR dp un gd fr) (call (.ref 153) [.ref l]) Q E s := by
  obtain ⟨X, T, B, hd, hu⟩ := H
  revert X; delta PR; k_fill; intro X
  k_with_none
  (k_with "storeName" => (dsimp only; walk_at "storeName"))
  refine enterC (binds := [(Str.ofString "rows", .ref l)]) (args := ⟨[.ref l], []⟩) X T (by k_is) (by k_is) (by k_room) (BindsTo.of_eq rfl) rfl (by decide +kernel) ?_ rfl rfl rfl
  intro L h₁ tk₁ cells F N Y
  k_cells Y
  try simp only [List.cons_append, List.nil_append] at N
  try dsimp only
  rename_i oc hoc
  have hoc' : oc.data = .cell (some (.ref l)) := hoc
  clear hoc
  k_unmd
  k_fold
  iterate 2 (first | (k_unfold; (try dsimp only)) | walk1)
  (with_unfolding_all refine' ListComp_two 6 (fun i => i) (uInv (L + 1, oc) g) F N (by rfl) (by rfl) (by with_unfolding_all rfl) (by decide) (by rfl) (by decide) (by rfl) (by rfl) (by decide) (fun _ => rfl) (fun _ _ => rfl) (by decide) ?k1 (by decide) ?k2 ?k3 ?k4 ?k5 ?k6 ?k7 ?k8 ?k9)
  case k1 => exact fun i hi => small_one (by decide) (by decide) (by omega) (by omega)
  case k2 => exact fun i hi => by rw [rangeSize_nat]; simp
  case k3 => exact ⟨[], rfl, PairsIn.nil, by decide, by decide⟩
  case k4 =>
    rintro i ys nw hi ⟨tl, rfl, hp, h1, h2⟩
    exact ⟨tl, rfl, upTo_next g i ▸ hp, by omega, by omega⟩
  case k5 =>
    rintro i j ys nw ⟨tl, rfl, hp, h1, h2⟩
    rw [hp.1]
    exact upTo_len g i j h1 h2
  case k6 =>
    k_fold
    k_steps
    · rename Fr _ _ _ _ => F9
      exact F9
    · rename News _ _ _ _ => N9
      exact N9
  case k7 =>
    rintro i I oI C oC D ys nw m₂ t h₂ tk₂ E' hi ⟨tl, rfl, hp, hi1, hj1⟩ hC hx F₂ N₂
    clear F N
    k_fold
    k_steps
    · rename Fr _ _ _ _ => F9
      exact F9
    · rename News _ _ _ _ => N9
      exact N9
  case k8 =>
    rintro i j I oI J oJ C oC D ys nw m₂ t t' h₂ tk₂ E' hi hj ⟨tl, rfl, hp, hi1, hj1⟩ hC hx hy F₂ N₂
    clear F N
    have h6 : (rowsOf g).length = 6 := rfl
    k_unmd
    k_fold
    k_steps
    · have he : edge g i j = true := edge_of_ne (by assumption) hi (by omega)
      exact ⟨_, _, [], rfl, F₂, N₂, (fun _ h => nomatch h), tl, rfl, upTo_neg he ▸ hp, by omega, by omega⟩
    · have he : edge g i j = false := edge_of_eq (by assumption) hi (by omega)
      rename News _ _ _ _ => N9
      rename (∀ p ∈ _, Prod.fst p < _) => l9
      refine ⟨_, _, [_], rfl, (by assumption), N9, ?_, _ :: tl, rfl, ?_, by omega, by omega⟩
      · intro p hp hb
        rw [List.mem_singleton.mp hp] at hb
        obtain ⟨q, hq, e⟩ := List.mem_map.mp hb
        exact absurd (l9 q (List.mem_append.mpr (.inl hq))) (by rw [e]; exact Nat.lt_irrefl _)
      · rw [upTo_pos he]
        exact (hp.mono fun p h => List.mem_cons_of_mem _ h).snoc (n := 0) (List.Mem.head _)
  case k9 =>
    rintro D ys nw h₂ tk₂ ⟨tl, rfl, hp, hi1, hj1⟩ F₂ N₂ off
    show Q (.ref D) _
    rw [upTo_all] at hp
    have hn9 : NewObjs s.heap h₂ ((D, PyProof.Rows.LCg.lst ys) :: tl) := fun p hp9 => by
      have h' : p ∈ (D, PyProof.Rows.LCg.lst ys) :: (tl ++ [(L + 1, oc)]) := by
        rcases List.mem_cons.mp hp9 with rfl | hp9
        · exact List.Mem.head _
        · exact List.Mem.tail _ (List.mem_append.mpr (.inl hp9))
      exact ⟨(N₂ p h').1, (N₂ p h').2.2⟩
    have ho9 : OffAll [D] tl := fun p hp9 => off p (List.mem_append.mpr (.inl hp9))
    exact ret D ys _ _ _ tl F₂.keep hn9 ho9 hp
end

section
open PySem PySem.W PySem.Calls PyProof.Rows PyProof.Rows.LCg
set_option maxRecDepth 100000

section
variable {prog : Program} {w : World} {A : Around} {E : Value → Shared → Prop} {R : Result → Shared → Prop} {s : Shared}
theorem loop_one {elt target iter : Expr} {scope : Scope} {pos : Pos} {it acc : Value} {env : Env} (I : Nat → Shared → Prop)
    (turn : ∀ n s, I n s → wpAny (model prog w) A (pyNext it) (fun r s₁ => match r with
      | none => R (.ok .next) s₁
      | some v => wpAny (model prog w) A (letOwnedTupleGo target it v) (fun _ s₁' => wpAny (model prog w) A (assign target env v) (fun _ s₂ =>
          wpAny (model prog w) A (eval elt env) (fun x s₄ =>
              wpAny (model prog w) A (call (.builtin "list.append") [acc, x]) (fun _ s₅ => ∃ m, m < n ∧ I m s₅) (notedBy (model prog w) A env fun e s' => R (.error e) s') s₄) (notedBy (model prog w) A env fun e s' => R (.error e) s') s₂)
              (notedBy (model prog w) A env fun e s' => R (.error e) s') s₁') (notedBy (model prog w) A env fun e s' => R (.error e) s') s₁) (notedBy (model prog w) A env fun e s' => R (.error e) s') s)
    (n : Nat) (h : I n s) : codeAny (model prog w) A (.compLoop (.ListComp elt [⟨target, iter, [], 0⟩] scope pos) 0 it acc env) R s := by
  refine codeAny_loop rfl I (fun n s hI => ?_) n h
  show wpAny _ A ((compTurn (.ListComp elt [⟨target, iter, [], 0⟩] scope pos) 0 it acc env).onRaise (fun x => do noteFrame x env; theTreesLotGoes x)) _ _ s
  refine wpAny_noted ?_
  unfold compTurn
  refine wpAny_bind (wpAny_standAt (wpAny_bind (wpAny_mono (turn n s hI) (fun r s₁ h₁ => ?_) fun _ _ h' => h')))
  cases r with
  | none => exact wpAny_pure h₁
  | some v =>
    refine wpAny_bind (wpAny_mono h₁ (fun _ s₁' h₁' => ?_) fun _ _ x => x)
    refine wpAny_bind (wpAny_mono h₁' (fun _ s₂ h₂ => ?_) fun _ _ x => x)
    refine wpAny_bind (wpAny_mono (wpAny_tests_nil (Q := fun ok s' => ok = true ∧ s' = s₂) ⟨rfl, rfl⟩) (fun ok s' hh => ?_) fun _ _ x => x)
    obtain ⟨rfl, rfl⟩ := hh
    exact wpAny_bind (wpAny_bind (wpAny_mono h₂ (fun x s₄ h₄ => wpAny_bind (wpAny_mono h₄ (fun _ s₅ h₅ => wpAny_pure (wpAny_pure ⟨rfl, h₅⟩)) fun _ _ h' => h')) fun _ _ h' => h'))
end

section
variable {prog : Program} {w : World} {A : Around} {E : Value → Shared → Prop} {s : Shared} {h₀ : Heap} {L : Addr} {m : Str → Option Value} {env : Env}

theorem comp_core {use : Option (Value → Sem Unit)} {cpos : Pos} {elt iter target : Expr} {scope : Scope} {pos : Pos} {cl : List (Str × Addr)} {Q : Value → Shared → Prop} {l : Addr} {vs : List Value} {ln : Nat} {news : List (Addr × Obj)}
    (Inv : Nat → List Value → Nat → Prop) (Bd : Nat → (Str → Option Value) → Prop) (_F₀ : Fr h₀ L s.heap m)
    (hh : A.handled = none) (hlm : (l, listOf (List.toArray vs) ln) ∈ news) (hsz : vs.length ≤ sizeLine)
    (hclos : closureFor scope env = pure cl) (hcell : ∀ y ∈ scope.names, y.2 ≠ .cell) (hkind : scope.kind = .function)
    (hnames : ∀ y ∈ scope.names, y.2 = .local → scope.names.lookup y.1 = some .local)
    (hs : ∀ x, foldedSetIterable iter env x = pure x)
    (hMono : ∀ i ys t t', t ≤ t' → Inv i ys t → Inv i ys t')
    (h : wpAny (model prog w) A (eval iter env) (fun xv s₁ => ∃ h₁ tk₁, xv = .ref l ∧ s₁ = { s with heap := h₁, toks := tk₁ } ∧ Fr h₀ L h₁ m ∧ News h₀ L h₁ news ∧ Inv 0 [] tk₁) E s)
    (hassign : ∀ i v I oI C oC D ys m₂ h₁ tk (Q' : Unit → Shared → Prop) (E' : Value → Shared → Prop), vs[i]? = some v → h₁.IsListIter I l (i + 1) → NsObj oC m₂ → Fr h₀ L h₁ m → News h₀ L h₁ ([(I, oI), (C, oC), (D, lst ys)] ++ news) →
      C ≠ L → h₀.get? C = none → (∀ p ∈ [(I, oI), (D, lst ys)] ++ news, p.1 ≠ C) →
      (∀ h' tk' oC' m', tk ≤ tk' → Bd i m' → NsObj oC' m' → Fr h₀ L h' m → News h₀ L h' ([(I, oI), (C, oC'), (D, lst ys)] ++ news) → Q' () { s with heap := h', toks := tk' }) →
      wpAny (model prog w) A (letOwnedTupleGo target (.ref I) v) (fun _ s₁ => wpAny (model prog w) A (assign target (compEnvC scope cl C env) v) Q' E' s₁) E' { s with heap := h₁, toks := tk })
    (hTurn : ∀ i I oI C oC D ys m₂ h₁ tk (E' : Value → Shared → Prop), i < vs.length → Inv i ys tk → Bd i m₂ → NsObj oC m₂ → Fr h₀ L h₁ m → News h₀ L h₁ ([(I, oI), (C, oC), (D, lst ys)] ++ news) →
      wpAny (model prog w) A (eval elt (compEnvC scope cl C env)) (fun y s₂ => ∃ h' tk', s₂ = { s with heap := h', toks := tk' } ∧ Fr h₀ L h' m ∧ News h₀ L h' ([(I, oI), (C, oC), (D, lst ys)] ++ news) ∧ Inv (i + 1) (ys ++ [y]) tk') E' { s with heap := h₁, toks := tk })
    (hFin : ∀ D C ys h₁ tk m', Inv vs.length ys tk → Fr h₀ L h₁ m → News h₀ L h₁ ((D, lst ys) :: news) → (∀ p ∈ news, p.1 < D) → h₁.Ns C m' → C ≠ L → h₀.get? C = none → D ≠ C → (∀ p ∈ news, p.1 ≠ C) → compPost (model prog w) A E use Q (.ref D) C (.ok .next) { s with heap := h₁, toks := tk }) :
    wpAny (model prog w) A (comprehension (.ListComp elt [⟨target, iter, [], 0⟩] scope pos) scope env cpos (newList []) false (eval iter env) use) Q E s := by
  refine wpAny_comprehension_free (use := use) rfl hs hclos hkind hnames (wpAny_mono h (fun xv s₁ q => ?_) fun _ _ e => e)
  obtain ⟨h₁, tk₁, rfl, rfl, F, N, hI0'⟩ := q
  have hl : h₁.IsList l vs.toArray := ⟨_, (N _ hlm).1, rfl, _, rfl⟩
  refine wpAny_pyIter_list hl ?_
  generalize hI : ({ s with heap := h₁, toks := tk₁ } : Shared).heap.objs.size = I
  have hI' : h₁.objs.size = I := hI
  dsimp only
  generalize hH1 : h₁.push { cls := .type "list_iterator", data := .fields #[.ref l, .int 0 0] } = H1
  have hIt1 : H1.IsListIter I l 0 := by rw [← hH1, ← hI']; exact ⟨_, Heap.get?_push_size _ rfl, rfl, rfl⟩
  have up1 : ∀ b o, h₁.get? b = some o → H1.get? b = some o := fun b o e => hH1 ▸ Heap.get?_push_of_some _ e
  have F1 : Fr h₀ L H1 m := F.keeps up1
  have N1 : News h₀ L H1 news := N.grown up1
  have hI0 : h₀.get? I = none := hI' ▸ next_is_new F
  have hIL : L ≠ I := hI' ▸ Nat.ne_of_lt F.ns.lt
  have offI : ∀ p ∈ news, p.1 ≠ I := fun p hp => hI' ▸ Nat.ne_of_lt (Heap.lt_size (N p hp).1)
  have hIsz : I < H1.objs.size := by rw [← hH1, Heap.size_push, hI']; exact Nat.lt_succ_self _
  refine wpAny_newObj_type (wpAny_newFunctionEnv hcell (by intro y hy; simp at hy) (fun H3 hns₁ hsb₁ => ?_) hkind)
  dsimp only at hns₁ hsb₁ ⊢
  generalize hH2 : H1.push { cls := .type "list", dict := none, data := .seq ([] : List Value).toArray } = H2 at hns₁ hsb₁ ⊢
  generalize hC' : H2.objs.size = C at hns₁ hsb₁ ⊢
  generalize hD' : H1.objs.size = D at ⊢
  have hC : C = D + 1 := by rw [← hC', ← hH2, Heap.size_push, hD']
  have below : ∀ b, b < D → b ≠ C ∧ b ≠ D := fun b hb => ⟨by rw [hC]; exact Nat.ne_of_lt (Nat.lt_succ_of_lt hb), Nat.ne_of_lt hb⟩
  have hDC : D ≠ C := by rw [hC]; exact Nat.ne_of_lt (Nat.lt_succ_self _)
  have old : ∀ b o, H1.get? b = some o → H3.get? b = some o := fun b o e => hsb₁.extBut b o (below b (hD' ▸ Heap.lt_size e)).1 (Heap.get?_push_of_some _ (hH2 ▸ Heap.get?_push_of_some _ e))
  have hacc : H3.get? D = some (lst []) := hsb₁.extBut _ _ hDC (Heap.get?_push_of_some _ (hH2 ▸ hD' ▸ Heap.get?_push_size _ rfl))
  have fresh₀ : ∀ a, D ≤ a → h₀.get? a = none := fun a ha => by
    cases e : h₀.get? a with
    | none => rfl
    | some o' => exact absurd (hD' ▸ Heap.lt_size (F1.keep a o' e)) (Nat.not_lt.mpr ha)
  have hD₀ : h₀.get? D = none := fresh₀ _ (Nat.le_refl _)
  have hC₀ : h₀.get? C = none := fresh₀ _ (by rw [hC]; exact Nat.le_succ _)
  have hLlt : L < D := hD' ▸ F1.ns.lt
  have hDL : D ≠ L := Ne.symm (below L hLlt).2
  have hCL : C ≠ L := Ne.symm (below L hLlt).1
  have hCI : I ≠ C := (below I (hD' ▸ hIsz)).1
  have hDI : I ≠ D := (below I (hD' ▸ hIsz)).2
  have nlt : ∀ p ∈ news, p.1 < D := fun p hp => hD' ▸ Heap.lt_size (N1 p hp).1
  have offC : ∀ p ∈ news, p.1 ≠ C := fun p hp => (below _ (nlt p hp)).1
  have offD : ∀ p ∈ news, p.1 ≠ D := fun p hp => (below _ (nlt p hp)).2
  have loop : ∀ s₃ : Shared, s₃ = { s with heap := H3, toks := tk₁ + ([] : List (Str × Value)).length } →
      codeAny (model prog w) A (.compLoop (.ListComp elt [⟨target, iter, [], 0⟩] scope pos) 0 (.ref I) (.ref D) (compEnvC scope cl C env)) (compPost (model prog w) A E use Q (.ref D) C) s₃ := by
    rintro s₃ rfl
    refine loop_one (fun k s' => ∃ h' tk i ys m', s' = { s with heap := h', toks := tk } ∧ i ≤ vs.length ∧ k = vs.length + 1 - i ∧ ys.length = i ∧ h'.IsListIter I l i ∧ Fr h₀ L h' m ∧ h'.Ns C m' ∧ News h₀ L h' ((D, lst ys) :: news) ∧ Inv i ys tk) ?_ (vs.length + 1)
      ⟨H3, _, 0, [], _, rfl, Nat.zero_le _, rfl, rfl, ?_, F1.keeps old, hns₁, ?_, hI0'⟩
    · rintro k s' ⟨h', tk, i, ys, m', rfl, hi, rfl, hyl, hst, F', hn', N', hV⟩
      have hl' : h'.IsList l vs.toArray := ⟨_, (N' _ (List.mem_cons_of_mem _ hlm)).1, rfl, _, rfl⟩
      by_cases hlt : i < vs.length
      · refine wpAny_pyNext_list_item hst hl' (x := vs[i]) (by simp [hlt]) fun h₂ hit₂ hs₂ => ?_
        have F₂ : Fr h₀ L h₂ m := F'.change hs₂ (Ne.symm hIL) hI0
        obtain ⟨oI, heI, hrI⟩ := id hit₂
        have hn₂ : h₂.Ns C m' := hn'.at' fun o e => hs₂.extBut _ o (Ne.symm hCI) e
        obtain ⟨oC, heC, hoC⟩ := ns_obj hn₂
        have N₂ : News h₀ L h₂ ([(I, oI), (C, oC), (D, lst ys)] ++ news) := fun p hp => by
          rcases List.mem_cons.mp hp with rfl | hp
          · exact ⟨heI, Ne.symm hIL, hI0⟩
          · rcases List.mem_cons.mp hp with rfl | hp
            · exact ⟨heC, hCL, hC₀⟩
            · have hp' : p ∈ (D, lst ys) :: news := hp
              refine ⟨hs₂.extBut _ _ ?_ (N' p hp').1, (N' p hp').2⟩
              rcases List.mem_cons.mp hp' with rfl | hp'
              · exact Ne.symm hDI
              · exact offI p hp'
        refine wpAny_mono (hassign i vs[i] I oI C oC D ys m' h₂ tk _ _ (by simp [hlt]) hit₂ hoC F₂ N₂ hCL hC₀ (fun p hp => ?_) (fun h₃ tk₃ oC' m₃ hle hB hoC' F₃ N₃ => ?_)) (fun _ s₁ q => q) fun _ _ e => e
        · rcases List.mem_cons.mp hp with rfl | hp
          · exact hCI
          · have hp' : p ∈ (D, lst ys) :: news := hp
            rcases List.mem_cons.mp hp' with rfl | hp'
            · exact hDC
            · exact offC p hp'
        · refine wpAny_mono (hTurn i I oI C oC' D ys m₃ h₃ tk₃ _ hlt (hMono _ _ _ _ hle hV) hB hoC' F₃ N₃) (fun y s₄ q => ?_) fun _ _ e => e
          obtain ⟨h₄, tk₄, rfl, F₄, N₄, V₄⟩ := q
          have zD₄ : h₄.get? D = some (lst ys) := (N₄ (D, lst ys) (by simp)).1
          refine append_at (hsz := by show ys.toArray.size ≤ sizeLine; rw [List.size_toArray, hyl]; exact Nat.le_trans hi hsz) zD₄ fun h₅ hs₅ hD₅ => ?_
          refine ⟨vs.length + 1 - (i + 1), by omega, h₅, tk₄, i + 1, ys ++ [y], m₃, rfl, hlt, rfl, by rw [List.length_append, List.length_singleton, hyl], ⟨oI, hs₅.extBut _ _ hDI (N₄ (I, oI) (by simp)).1, hrI⟩, F₄.change hs₅ hDL hD₀, hoC'.ns (hs₅.extBut _ _ (Ne.symm hDC) (N₄ (C, oC') (by simp)).1), fun p hp => ?_, V₄⟩
          rcases List.mem_cons.mp hp with rfl | hp
          · exact ⟨hD₅.trans (congrArg some (lst_snoc ys y)), hDL, hD₀⟩
          · have hp' := N₄ p (by simp [hp])
            exact ⟨hs₅.extBut _ _ (offD p hp) hp'.1, hp'.2⟩
      · obtain rfl : i = vs.length := Nat.le_antisymm hi (Nat.not_lt.mp hlt)
        refine wpAny_pyNext_list_end hh hst hl' (by simp) fun h₂ he₂ => ?_
        have kI : ∀ b o, b ≠ I → h'.get? b = some o → h₂.get? b = some o := fun b o hb e => he₂ b o hb e
        have F₂ : Fr h₀ L h₂ m := ⟨F'.ns.at' fun o e => kI _ o hIL e, fun b o e => kI b o (fun q => by rw [q, hI0] at e; cases e) (F'.keep b o e), F'.above⟩
        refine hFin D C ys h₂ tk m' hV F₂ (fun p hp => ?_) nlt (hn'.at' fun o e => kI _ o (Ne.symm hCI) e) hCL hC₀ hDC offC
        rcases List.mem_cons.mp hp with rfl | hp
        · exact ⟨kI _ _ (Ne.symm hDI) (N' (D, lst ys) (List.Mem.head _)).1, hDL, hD₀⟩
        · have hp' := N' p (List.mem_cons_of_mem _ hp)
          exact ⟨kI _ _ (offI p hp) hp'.1, hp'.2⟩
    · obtain ⟨o, e, r⟩ := hIt1
      exact ⟨o, old _ _ e, r⟩
    · intro p hp
      rcases List.mem_cons.mp hp with rfl | hp
      · exact ⟨hacc, hDL, hD₀⟩
      · exact ⟨old _ _ (N1 p hp).1, (N1 p hp).2⟩
  refine codeAny_compStart_list (loop _ rfl) (wpAny_pyIter_listiter (l := l) (i := 0) ?_ (loop _ rfl))
  obtain ⟨o, e, r⟩ := hIt1
  exact ⟨o, old _ _ e, r⟩

theorem ListComp_src {elt iter target : Expr} {scope : Scope} {pos : Pos} {cl : List (Str × Addr)} {Q : Value → Shared → Prop} {l : Addr} {vs : List Value} {ln : Nat} {news : List (Addr × Obj)}
    (Inv : Nat → List Value → Nat → Prop) (Bd : Nat → (Str → Option Value) → Prop) (_F₀ : Fr h₀ L s.heap m)
    (hh : A.handled = none) (hlm : (l, listOf (List.toArray vs) ln) ∈ news) (hsz : vs.length ≤ sizeLine)
    (hclos : closureFor scope env = pure cl) (hcell : ∀ y ∈ scope.names, y.2 ≠ .cell) (hkind : scope.kind = .function)
    (hnames : ∀ y ∈ scope.names, y.2 = .local → scope.names.lookup y.1 = some .local)
    (hs : ∀ x, foldedSetIterable iter env x = pure x)
    (hMono : ∀ i ys t t', t ≤ t' → Inv i ys t → Inv i ys t')
    (h : wpAny (model prog w) A (eval iter env) (fun xv s₁ => ∃ h₁ tk₁, xv = .ref l ∧ s₁ = { s with heap := h₁, toks := tk₁ } ∧ Fr h₀ L h₁ m ∧ News h₀ L h₁ news ∧ Inv 0 [] tk₁) E s)
    (hassign : ∀ i v I oI C oC D ys m₂ h₁ tk (Q' : Unit → Shared → Prop) (E' : Value → Shared → Prop), vs[i]? = some v → h₁.IsListIter I l (i + 1) → NsObj oC m₂ → Fr h₀ L h₁ m → News h₀ L h₁ ([(I, oI), (C, oC), (D, lst ys)] ++ news) →
      C ≠ L → h₀.get? C = none → (∀ p ∈ [(I, oI), (D, lst ys)] ++ news, p.1 ≠ C) →
      (∀ h' tk' oC' m', tk ≤ tk' → Bd i m' → NsObj oC' m' → Fr h₀ L h' m → News h₀ L h' ([(I, oI), (C, oC'), (D, lst ys)] ++ news) → Q' () { s with heap := h', toks := tk' }) →
      wpAny (model prog w) A (letOwnedTupleGo target (.ref I) v) (fun _ s₁ => wpAny (model prog w) A (assign target (compEnvC scope cl C env) v) Q' E' s₁) E' { s with heap := h₁, toks := tk })
    (hTurn : ∀ i I oI C oC D ys m₂ h₁ tk (E' : Value → Shared → Prop), i < vs.length → Inv i ys tk → Bd i m₂ → NsObj oC m₂ → Fr h₀ L h₁ m → News h₀ L h₁ ([(I, oI), (C, oC), (D, lst ys)] ++ news) →
      wpAny (model prog w) A (eval elt (compEnvC scope cl C env)) (fun y s₂ => ∃ h' tk', s₂ = { s with heap := h', toks := tk' } ∧ Fr h₀ L h' m ∧ News h₀ L h' ([(I, oI), (C, oC), (D, lst ys)] ++ news) ∧ Inv (i + 1) (ys ++ [y]) tk') E' { s with heap := h₁, toks := tk })
    (hFin : ∀ D ys h₁ tk, Inv vs.length ys tk → Fr h₀ L h₁ m → News h₀ L h₁ ((D, lst ys) :: news) → (∀ p ∈ news, p.1 < D) → Q (.ref D) { s with heap := h₁, toks := tk }) :
    wpAny (model prog w) A (eval (.ListComp elt [⟨target, iter, [], 0⟩] scope pos) env) Q E s := by
  rw [eval_ListComp]
  refine comp_core Inv Bd _F₀ hh hlm hsz hclos hcell hkind hnames hs hMono h hassign hTurn ?_
  intro D C ys h₁ tk m' hV F N nlt hn hCL hC₀ hDC offC
  refine ⟨m', hn, fun h₃ hs₃ => hFin D ys h₃ tk hV (F.change hs₃ hCL hC₀) (fun p hp => ?_) nlt⟩
  rcases List.mem_cons.mp hp with rfl | hp
  · exact ⟨hs₃.extBut _ _ hDC (N _ (List.Mem.head _)).1, (N _ (List.Mem.head _)).2⟩
  · have hp' := N p (List.mem_cons_of_mem _ hp)
    exact ⟨hs₃.extBut _ _ (offC p hp) hp'.1, hp'.2⟩

theorem Assign_src {elt iter target : Expr} {scope : Scope} {pos : Pos} {cl : List (Str × Addr)} {Q : Flow → Shared → Prop} {y : Str} {py spos : Pos} {l : Addr} {vs : List Value} {ln : Nat} {news : List (Addr × Obj)}
    (Inv : Nat → List Value → Nat → Prop) (Bd : Nat → (Str → Option Value) → Prop) (_F₀ : Fr h₀ L s.heap m)
    (hLe : env.locals = L) (hsw : swapsWith (.ListComp elt [⟨target, iter, [], 0⟩] scope pos) (some (.Name y py)) spos.line env = pure true) (hy : env.kindOf y = some .local) (hp : (env.scope.kind == .class || (env.scope.kind == .module && env.locals != env.globals)) = false)
    (hh : A.handled = none) (hlm : (l, listOf (List.toArray vs) ln) ∈ news) (hsz : vs.length ≤ sizeLine)
    (hclos : closureFor scope env = pure cl) (hcell : ∀ y ∈ scope.names, y.2 ≠ .cell) (hkind : scope.kind = .function)
    (hnames : ∀ y ∈ scope.names, y.2 = .local → scope.names.lookup y.1 = some .local)
    (hs : ∀ x, foldedSetIterable iter env x = pure x)
    (hMono : ∀ i ys t t', t ≤ t' → Inv i ys t → Inv i ys t')
    (h : wpAny (model prog w) A (eval iter env) (fun xv s₁ => ∃ h₁ tk₁, xv = .ref l ∧ s₁ = { s with heap := h₁, toks := tk₁ } ∧ Fr h₀ L h₁ m ∧ News h₀ L h₁ news ∧ Inv 0 [] tk₁) E s)
    (hassign : ∀ i v I oI C oC D ys m₂ h₁ tk (Q' : Unit → Shared → Prop) (E' : Value → Shared → Prop), vs[i]? = some v → h₁.IsListIter I l (i + 1) → NsObj oC m₂ → Fr h₀ L h₁ m → News h₀ L h₁ ([(I, oI), (C, oC), (D, lst ys)] ++ news) →
      C ≠ L → h₀.get? C = none → (∀ p ∈ [(I, oI), (D, lst ys)] ++ news, p.1 ≠ C) →
      (∀ h' tk' oC' m', tk ≤ tk' → Bd i m' → NsObj oC' m' → Fr h₀ L h' m → News h₀ L h' ([(I, oI), (C, oC'), (D, lst ys)] ++ news) → Q' () { s with heap := h', toks := tk' }) →
      wpAny (model prog w) A (letOwnedTupleGo target (.ref I) v) (fun _ s₁ => wpAny (model prog w) A (assign target (compEnvC scope cl C env) v) Q' E' s₁) E' { s with heap := h₁, toks := tk })
    (hTurn : ∀ i I oI C oC D ys m₂ h₁ tk (E' : Value → Shared → Prop), i < vs.length → Inv i ys tk → Bd i m₂ → NsObj oC m₂ → Fr h₀ L h₁ m → News h₀ L h₁ ([(I, oI), (C, oC), (D, lst ys)] ++ news) →
      wpAny (model prog w) A (eval elt (compEnvC scope cl C env)) (fun y s₂ => ∃ h' tk', s₂ = { s with heap := h', toks := tk' } ∧ Fr h₀ L h' m ∧ News h₀ L h' ([(I, oI), (C, oC), (D, lst ys)] ++ news) ∧ Inv (i + 1) (ys ++ [y]) tk') E' { s with heap := h₁, toks := tk })
    (hFin : ∀ D ys h₁ tk, Inv vs.length ys tk → Fr h₀ L h₁ (fun z => if z = y then some (.ref D) else m z) → News h₀ L h₁ ((D, lst ys) :: news) → (∀ p ∈ news, p.1 < D) → Q .next { s with heap := h₁, toks := tk }) :
    wpAny (model prog w) A (exec (.Assign [.Name y py] (.ListComp elt [⟨target, iter, [], 0⟩] scope pos) spos) env) Q E s := by
  subst hLe
  rw [exec_Assign_Name_used _ _ _ _ hsw]
  refine wpAny_bind (wpAny_standAt (wpAny_bind ?_))
  show wpAny _ A (do let _ ← comprehension (.ListComp elt [⟨target, iter, [], 0⟩] scope pos) scope env _ (newList []) false (eval iter env) (some (assign (.Name y py) env))) _ _ s
  refine wpAny_bind (wpAny_mono (comp_core (use := some (assign (.Name y py) env)) (Q := fun _ s' => Q .next s') Inv Bd _F₀ hh hlm hsz hclos hcell hkind hnames hs hMono h hassign hTurn ?_) (fun _ s' hq => wpAny_pure (wpAny_pure hq)) fun _ _ e => e)
  intro D C ys h₁ tk m' hV F N nlt hn hCL hC₀ hDC offC
  show wpAny _ A (assign (.Name y py) env (.ref D)) _ _ _
  refine wpAny_assign_Name (wpAny_storeName_local hy F.ns (fun h₂ hn₂ hs₂ => ?_) hp)
  have F₂ := F.set hn₂ hs₂
  have N₂ := N.set hs₂
  refine ⟨m', hn.sameBut hs₂ hCL, fun h₃ hs₃ => hFin D ys h₃ _ (hMono _ _ _ _ (Nat.le_succ _) hV) (F₂.change hs₃ hCL hC₀) (fun p hp => ?_) nlt⟩
  rcases List.mem_cons.mp hp with rfl | hp
  · exact ⟨hs₃.extBut _ _ hDC (N₂ _ (List.Mem.head _)).1, (N₂ _ (List.Mem.head _)).2⟩
  · have hp' := N₂ p (List.mem_cons_of_mem _ hp)
    exact ⟨hs₃.extBut _ _ (offC p hp) hp'.1, hp'.2⟩

theorem ListComp_pairs {elt iter : Expr} {x0 x1 : Str} {p0 p1 tp : Pos} {x2} {scope : Scope} {pos : Pos} {cl : List (Str × Addr)} {Q : Value → Shared → Prop} {l : Addr} {vs : List Value} {ps : List (Nat × Nat)} {ln : Nat} {news : List (Addr × Obj)}
    (Inv : Nat → List Value → Nat → Prop) (F₀ : Fr h₀ L s.heap m) (_N₀ : News h₀ L s.heap news)
    (hh : A.handled = none) (hlm : (l, listOf (List.toArray vs) ln) ∈ news) (hps : PairsIn news vs ps) (hsz : vs.length ≤ sizeLine)
    (hclos : closureFor scope env = pure cl) (hcell : ∀ y ∈ scope.names, y.2 ≠ .cell) (hkind : scope.kind = .function)
    (hnames : ∀ y ∈ scope.names, y.2 = .local → scope.names.lookup y.1 = some .local) (hx0 : scope.names.lookup x0 = some .local) (hx1 : scope.names.lookup x1 = some .local) (hxx : x0 ≠ x1)
    (hs : ∀ x, foldedSetIterable iter env x = pure x)
    (hMono : ∀ i ys t t', t ≤ t' → Inv i ys t → Inv i ys t')
    (h : wpAny (model prog w) A (eval iter env) (fun xv s₁ => ∃ h₁ tk₁, xv = .ref l ∧ s₁ = { s with heap := h₁, toks := tk₁ } ∧ Fr h₀ L h₁ m ∧ News h₀ L h₁ news ∧ Inv 0 [] tk₁) E s)
    (hTurn : ∀ i p t u I oI C oC D ys m₂ h₁ tk (E' : Value → Shared → Prop), ps[i]? = some p → Inv i ys tk → NsObj oC m₂ → m₂ x0 = some (.int (p.1 : Nat) t) → m₂ x1 = some (.int (p.2 : Nat) u) → Fr h₀ L h₁ m → News h₀ L h₁ ([(I, oI), (C, oC), (D, lst ys)] ++ news) →
      wpAny (model prog w) A (eval elt (compEnvC scope cl C env)) (fun y s₂ => ∃ h' tk', s₂ = { s with heap := h', toks := tk' } ∧ Fr h₀ L h' m ∧ News h₀ L h' ([(I, oI), (C, oC), (D, lst ys)] ++ news) ∧ Inv (i + 1) (ys ++ [y]) tk') E' { s with heap := h₁, toks := tk })
    (hFin : ∀ D ys h₁ tk, Inv ps.length ys tk → Fr h₀ L h₁ m → News h₀ L h₁ ((D, lst ys) :: news) → (∀ p ∈ news, p.1 < D) → Q (.ref D) { s with heap := h₁, toks := tk }) :
    wpAny (model prog w) A (eval (.ListComp elt [⟨.Tuple [.Name x0 p0, .Name x1 p1] x2 tp, iter, [], 0⟩] scope pos) env) Q E s := by
  refine ListComp_src Inv (fun i m' => ∃ p t u, ps[i]? = some p ∧ m' x0 = some (.int (p.1 : Nat) t) ∧ m' x1 = some (.int (p.2 : Nat) u)) F₀ hh hlm hsz hclos hcell hkind hnames hs hMono h ?_ ?_ (hps.1 ▸ hFin)
  · intro i v I oI C oC D ys m₂ h₁ tk Q' E' hv hit hoC F N hCL hC₀ offC hQ
    have hi : i < vs.length := (List.getElem?_eq_some_iff.mp hv).1
    have hpi : ps[i]? = some (ps[i]'(hps.1 ▸ hi)) := List.getElem?_eq_getElem _
    obtain ⟨a, t, u, n, ha, hm⟩ := hps.2 i _ hpi
    rw [hv] at ha
    cases ha
    have zC := (N (C, oC) (by simp)).1
    have ha' : h₁.get? a = some (pairOf (ps[i]'(hps.1 ▸ hi)).1 (ps[i]'(hps.1 ▸ hi)).2 t u n) := (N _ (List.mem_append.mpr (.inr hm))).1
    refine wpAny_letOwnedTupleGo_listiter hit ?_
    refine assign_Tuple_tuple (items := #[_, _]) hh ⟨_, ha', rfl, _, rfl⟩ rfl rfl fun h₃ he => ?_
    have up : ∀ b o, h₁.get? b = some o → h₃.get? b = some o := fun b o e => he b o (Nat.ne_of_lt (Heap.lt_size e)) e
    have F₃ := F.keeps up
    have N₃ := N.grown up
    refine assignInOrder_cons (wpAny_assign_Name (wpAny_storeName_local (lookup_relabel_local hx0) (hoC.ns (up _ _ zC)) (fun h₄ hn₄ hs₄ => ?_) (by simp [compEnvC, relabel, hkind])))
    refine assignInOrder_cons (wpAny_assign_Name (wpAny_storeName_local (lookup_relabel_local hx1) hn₄ (fun h₅ hn₅ hs₅ => ?_) (by simp [compEnvC, relabel, hkind])))
    obtain ⟨oC', heC, hoC'⟩ := ns_obj hn₅
    refine assignInOrder_nil (hQ h₅ _ oC' _ (Nat.le_trans (Nat.le_succ _) (Nat.le_succ _)) ⟨_, t, u, hpi, by simp [hxx], by simp⟩ hoC' ((F₃.change hs₄ hCL hC₀).change hs₅ hCL hC₀) ?_)
    intro p hp
    have keepP : ∀ p ∈ [(I, oI), (C, oC), (D, lst ys)] ++ news, p.1 ≠ C → h₅.get? p.1 = some p.2 ∧ p.1 ≠ L ∧ h₀.get? p.1 = none := fun p hp hne => ⟨hs₅.extBut _ _ hne (hs₄.extBut _ _ hne (N₃ p hp).1), (N₃ p hp).2⟩
    simp only [List.cons_append, List.nil_append] at hp
    rcases List.mem_cons.mp hp with rfl | hp
    · exact keepP _ (by simp) (offC _ (by simp))
    · rcases List.mem_cons.mp hp with rfl | hp
      · exact ⟨heC, hCL, hC₀⟩
      · refine keepP p (by simp only [List.cons_append, List.nil_append]; exact List.mem_cons_of_mem _ (List.mem_cons_of_mem _ hp)) (offC p ?_)
        simp only [List.cons_append, List.nil_append]
        exact List.mem_cons_of_mem _ hp
  · rintro i I oI C oC D ys m₂ h₁ tk E' hi hV ⟨p, t, u, hp, h1, h2⟩ hoC F N
    exact hTurn i p t u I oI C oC D ys m₂ h₁ tk E' hp hV hoC h1 h2 F N

theorem Assign_pairs {elt iter : Expr} {x0 x1 : Str} {p0 p1 tp : Pos} {x2} {scope : Scope} {pos : Pos} {cl : List (Str × Addr)} {Q : Flow → Shared → Prop} {y : Str} {py spos : Pos} {l : Addr} {vs : List Value} {ps : List (Nat × Nat)} {ln : Nat} {news : List (Addr × Obj)}
    (Inv : Nat → List Value → Nat → Prop) (F₀ : Fr h₀ L s.heap m) (_N₀ : News h₀ L s.heap news)
    (hLe : env.locals = L) (hsw : swapsWith (.ListComp elt [⟨.Tuple [.Name x0 p0, .Name x1 p1] x2 tp, iter, [], 0⟩] scope pos) (some (.Name y py)) spos.line env = pure true) (hy : env.kindOf y = some .local) (hp : (env.scope.kind == .class || (env.scope.kind == .module && env.locals != env.globals)) = false)
    (hh : A.handled = none) (hlm : (l, listOf (List.toArray vs) ln) ∈ news) (hps : PairsIn news vs ps) (hsz : vs.length ≤ sizeLine)
    (hclos : closureFor scope env = pure cl) (hcell : ∀ y ∈ scope.names, y.2 ≠ .cell) (hkind : scope.kind = .function)
    (hnames : ∀ y ∈ scope.names, y.2 = .local → scope.names.lookup y.1 = some .local) (hx0 : scope.names.lookup x0 = some .local) (hx1 : scope.names.lookup x1 = some .local) (hxx : x0 ≠ x1)
    (hs : ∀ x, foldedSetIterable iter env x = pure x)
    (hMono : ∀ i ys t t', t ≤ t' → Inv i ys t → Inv i ys t')
    (h : wpAny (model prog w) A (eval iter env) (fun xv s₁ => ∃ h₁ tk₁, xv = .ref l ∧ s₁ = { s with heap := h₁, toks := tk₁ } ∧ Fr h₀ L h₁ m ∧ News h₀ L h₁ news ∧ Inv 0 [] tk₁) E s)
    (hTurn : ∀ i p t u I oI C oC D ys m₂ h₁ tk (E' : Value → Shared → Prop), ps[i]? = some p → Inv i ys tk → NsObj oC m₂ → m₂ x0 = some (.int (p.1 : Nat) t) → m₂ x1 = some (.int (p.2 : Nat) u) → Fr h₀ L h₁ m → News h₀ L h₁ ([(I, oI), (C, oC), (D, lst ys)] ++ news) →
      wpAny (model prog w) A (eval elt (compEnvC scope cl C env)) (fun y s₂ => ∃ h' tk', s₂ = { s with heap := h', toks := tk' } ∧ Fr h₀ L h' m ∧ News h₀ L h' ([(I, oI), (C, oC), (D, lst ys)] ++ news) ∧ Inv (i + 1) (ys ++ [y]) tk') E' { s with heap := h₁, toks := tk })
    (hFin : ∀ D ys h₁ tk, Inv ps.length ys tk → Fr h₀ L h₁ (fun z => if z = y then some (.ref D) else m z) → News h₀ L h₁ ((D, lst ys) :: news) → (∀ p ∈ news, p.1 < D) → Q .next { s with heap := h₁, toks := tk }) :
    wpAny (model prog w) A (exec (.Assign [.Name y py] (.ListComp elt [⟨.Tuple [.Name x0 p0, .Name x1 p1] x2 tp, iter, [], 0⟩] scope pos) spos) env) Q E s := by
  refine Assign_src Inv (fun i m' => ∃ p t u, ps[i]? = some p ∧ m' x0 = some (.int (p.1 : Nat) t) ∧ m' x1 = some (.int (p.2 : Nat) u)) F₀ hLe hsw hy hp hh hlm hsz hclos hcell hkind hnames hs hMono h ?_ ?_ (hps.1 ▸ hFin)
  · intro i v I oI C oC D ys m₂ h₁ tk Q' E' hv hit hoC F N hCL hC₀ offC hQ
    have hi : i < vs.length := (List.getElem?_eq_some_iff.mp hv).1
    have hpi : ps[i]? = some (ps[i]'(hps.1 ▸ hi)) := List.getElem?_eq_getElem _
    obtain ⟨a, t, u, n, ha, hm⟩ := hps.2 i _ hpi
    rw [hv] at ha
    cases ha
    have zC := (N (C, oC) (by simp)).1
    have ha' : h₁.get? a = some (pairOf (ps[i]'(hps.1 ▸ hi)).1 (ps[i]'(hps.1 ▸ hi)).2 t u n) := (N _ (List.mem_append.mpr (.inr hm))).1
    refine wpAny_letOwnedTupleGo_listiter hit ?_
    refine assign_Tuple_tuple (items := #[_, _]) hh ⟨_, ha', rfl, _, rfl⟩ rfl rfl fun h₃ he => ?_
    have up : ∀ b o, h₁.get? b = some o → h₃.get? b = some o := fun b o e => he b o (Nat.ne_of_lt (Heap.lt_size e)) e
    have F₃ := F.keeps up
    have N₃ := N.grown up
    refine assignInOrder_cons (wpAny_assign_Name (wpAny_storeName_local (lookup_relabel_local hx0) (hoC.ns (up _ _ zC)) (fun h₄ hn₄ hs₄ => ?_) (by simp [compEnvC, relabel, hkind])))
    refine assignInOrder_cons (wpAny_assign_Name (wpAny_storeName_local (lookup_relabel_local hx1) hn₄ (fun h₅ hn₅ hs₅ => ?_) (by simp [compEnvC, relabel, hkind])))
    obtain ⟨oC', heC, hoC'⟩ := ns_obj hn₅
    refine assignInOrder_nil (hQ h₅ _ oC' _ (Nat.le_trans (Nat.le_succ _) (Nat.le_succ _)) ⟨_, t, u, hpi, by simp [hxx], by simp⟩ hoC' ((F₃.change hs₄ hCL hC₀).change hs₅ hCL hC₀) ?_)
    intro p hp
    have keepP : ∀ p ∈ [(I, oI), (C, oC), (D, lst ys)] ++ news, p.1 ≠ C → h₅.get? p.1 = some p.2 ∧ p.1 ≠ L ∧ h₀.get? p.1 = none := fun p hp hne => ⟨hs₅.extBut _ _ hne (hs₄.extBut _ _ hne (N₃ p hp).1), (N₃ p hp).2⟩
    simp only [List.cons_append, List.nil_append] at hp
    rcases List.mem_cons.mp hp with rfl | hp
    · exact keepP _ (by simp) (offC _ (by simp))
    · rcases List.mem_cons.mp hp with rfl | hp
      · exact ⟨heC, hCL, hC₀⟩
      · refine keepP p (by simp only [List.cons_append, List.nil_append]; exact List.mem_cons_of_mem _ (List.mem_cons_of_mem _ hp)) (offC p ?_)
        simp only [List.cons_append, List.nil_append]
        exact List.mem_cons_of_mem _ hp
  · rintro i I oI C oC D ys m₂ h₁ tk E' hi hV ⟨p, t, u, hp, h1, h2⟩ hoC F N
    exact hTurn i p t u I oI C oC D ys m₂ h₁ tk E' hp hV hoC h1 h2 F N

theorem ListComp_val {elt iter : Expr} {x0 : Str} {p0 : Pos} {scope : Scope} {pos : Pos} {cl : List (Str × Addr)} {Q : Value → Shared → Prop} {l : Addr} {vs : List Value} {ln : Nat} {news : List (Addr × Obj)}
    (Inv : Nat → List Value → Nat → Prop) (F₀ : Fr h₀ L s.heap m) (_N₀ : News h₀ L s.heap news)
    (hh : A.handled = none) (hlm : (l, listOf (List.toArray vs) ln) ∈ news) (hsz : vs.length ≤ sizeLine)
    (hclos : closureFor scope env = pure cl) (hcell : ∀ y ∈ scope.names, y.2 ≠ .cell) (hkind : scope.kind = .function)
    (hnames : ∀ y ∈ scope.names, y.2 = .local → scope.names.lookup y.1 = some .local) (hx0 : scope.names.lookup x0 = some .local)
    (hs : ∀ x, foldedSetIterable iter env x = pure x)
    (hMono : ∀ i ys t t', t ≤ t' → Inv i ys t → Inv i ys t')
    (h : wpAny (model prog w) A (eval iter env) (fun xv s₁ => ∃ h₁ tk₁, xv = .ref l ∧ s₁ = { s with heap := h₁, toks := tk₁ } ∧ Fr h₀ L h₁ m ∧ News h₀ L h₁ news ∧ Inv 0 [] tk₁) E s)
    (hTurn : ∀ i v I oI C oC D ys m₂ h₁ tk (E' : Value → Shared → Prop), vs[i]? = some v → Inv i ys tk → NsObj oC m₂ → m₂ x0 = some v → Fr h₀ L h₁ m → News h₀ L h₁ ([(I, oI), (C, oC), (D, lst ys)] ++ news) →
      wpAny (model prog w) A (eval elt (compEnvC scope cl C env)) (fun y s₂ => ∃ h' tk', s₂ = { s with heap := h', toks := tk' } ∧ Fr h₀ L h' m ∧ News h₀ L h' ([(I, oI), (C, oC), (D, lst ys)] ++ news) ∧ Inv (i + 1) (ys ++ [y]) tk') E' { s with heap := h₁, toks := tk })
    (hFin : ∀ D ys h₁ tk, Inv vs.length ys tk → Fr h₀ L h₁ m → News h₀ L h₁ ((D, lst ys) :: news) → (∀ p ∈ news, p.1 < D) → Q (.ref D) { s with heap := h₁, toks := tk }) :
    wpAny (model prog w) A (eval (.ListComp elt [⟨.Name x0 p0, iter, [], 0⟩] scope pos) env) Q E s := by
  refine ListComp_src Inv (fun i m' => ∃ v, vs[i]? = some v ∧ m' x0 = some v) F₀ hh hlm hsz hclos hcell hkind hnames hs hMono h ?_ ?_ hFin
  · intro i v I oI C oC D ys m₂ h₁ tk Q' E' hv hit hoC F N hCL hC₀ offC hQ
    have zC := (N (C, oC) (by simp)).1
    refine wpAny_mono (Q := fun _ s' => s' = { s with heap := h₁, toks := tk }) (wpAny_pure rfl) (fun _ s₁ e => ?_) fun _ _ e => e
    rw [e]
    refine wpAny_assign_Name (wpAny_storeName_local (lookup_relabel_local hx0) (hoC.ns zC) (fun h₄ hn₄ hs₄ => ?_) (by simp [compEnvC, relabel, hkind]))
    obtain ⟨oC', heC, hoC'⟩ := ns_obj hn₄
    refine hQ h₄ _ oC' _ (Nat.le_succ _) ⟨v, hv, by simp⟩ hoC' (F.change hs₄ hCL hC₀) ?_
    intro p hp
    have keepP : ∀ p ∈ [(I, oI), (C, oC), (D, lst ys)] ++ news, p.1 ≠ C → h₄.get? p.1 = some p.2 ∧ p.1 ≠ L ∧ h₀.get? p.1 = none := fun p hp hne => ⟨hs₄.extBut _ _ hne (N p hp).1, (N p hp).2⟩
    simp only [List.cons_append, List.nil_append] at hp
    rcases List.mem_cons.mp hp with rfl | hp
    · exact keepP _ (by simp) (offC _ (by simp))
    · rcases List.mem_cons.mp hp with rfl | hp
      · exact ⟨heC, hCL, hC₀⟩
      · refine keepP p (by simp only [List.cons_append, List.nil_append]; exact List.mem_cons_of_mem _ (List.mem_cons_of_mem _ hp)) (offC p ?_)
        simp only [List.cons_append, List.nil_append]
        exact List.mem_cons_of_mem _ hp
  · rintro i I oI C oC D ys m₂ h₁ tk E' hi hV ⟨v, hv, h1⟩ hoC F N
    exact hTurn i v I oI C oC D ys m₂ h₁ tk E' hv hV hoC h1 F N
theorem Assign_val {elt iter : Expr} {x0 : Str} {p0 : Pos} {scope : Scope} {pos : Pos} {cl : List (Str × Addr)} {Q : Flow → Shared → Prop} {y : Str} {py spos : Pos} {l : Addr} {vs : List Value} {ln : Nat} {news : List (Addr × Obj)}
    (Inv : Nat → List Value → Nat → Prop) (F₀ : Fr h₀ L s.heap m) (_N₀ : News h₀ L s.heap news)
    (hLe : env.locals = L) (hsw : swapsWith (.ListComp elt [⟨.Name x0 p0, iter, [], 0⟩] scope pos) (some (.Name y py)) spos.line env = pure true) (hy : env.kindOf y = some .local) (hp : (env.scope.kind == .class || (env.scope.kind == .module && env.locals != env.globals)) = false)
    (hh : A.handled = none) (hlm : (l, listOf (List.toArray vs) ln) ∈ news) (hsz : vs.length ≤ sizeLine)
    (hclos : closureFor scope env = pure cl) (hcell : ∀ y ∈ scope.names, y.2 ≠ .cell) (hkind : scope.kind = .function)
    (hnames : ∀ y ∈ scope.names, y.2 = .local → scope.names.lookup y.1 = some .local) (hx0 : scope.names.lookup x0 = some .local)
    (hs : ∀ x, foldedSetIterable iter env x = pure x)
    (hMono : ∀ i ys t t', t ≤ t' → Inv i ys t → Inv i ys t')
    (h : wpAny (model prog w) A (eval iter env) (fun xv s₁ => ∃ h₁ tk₁, xv = .ref l ∧ s₁ = { s with heap := h₁, toks := tk₁ } ∧ Fr h₀ L h₁ m ∧ News h₀ L h₁ news ∧ Inv 0 [] tk₁) E s)
    (hTurn : ∀ i v I oI C oC D ys m₂ h₁ tk (E' : Value → Shared → Prop), vs[i]? = some v → Inv i ys tk → NsObj oC m₂ → m₂ x0 = some v → Fr h₀ L h₁ m → News h₀ L h₁ ([(I, oI), (C, oC), (D, lst ys)] ++ news) →
      wpAny (model prog w) A (eval elt (compEnvC scope cl C env)) (fun y s₂ => ∃ h' tk', s₂ = { s with heap := h', toks := tk' } ∧ Fr h₀ L h' m ∧ News h₀ L h' ([(I, oI), (C, oC), (D, lst ys)] ++ news) ∧ Inv (i + 1) (ys ++ [y]) tk') E' { s with heap := h₁, toks := tk })
    (hFin : ∀ D ys h₁ tk, Inv vs.length ys tk → Fr h₀ L h₁ (fun z => if z = y then some (.ref D) else m z) → News h₀ L h₁ ((D, lst ys) :: news) → (∀ p ∈ news, p.1 < D) → Q .next { s with heap := h₁, toks := tk }) :
    wpAny (model prog w) A (exec (.Assign [.Name y py] (.ListComp elt [⟨.Name x0 p0, iter, [], 0⟩] scope pos) spos) env) Q E s := by
  refine Assign_src Inv (fun i m' => ∃ v, vs[i]? = some v ∧ m' x0 = some v) F₀ hLe hsw hy hp hh hlm hsz hclos hcell hkind hnames hs hMono h ?_ ?_ hFin
  · intro i v I oI C oC D ys m₂ h₁ tk Q' E' hv hit hoC F N hCL hC₀ offC hQ
    have zC := (N (C, oC) (by simp)).1
    refine wpAny_mono (Q := fun _ s' => s' = { s with heap := h₁, toks := tk }) (wpAny_pure rfl) (fun _ s₁ e => ?_) fun _ _ e => e
    rw [e]
    refine wpAny_assign_Name (wpAny_storeName_local (lookup_relabel_local hx0) (hoC.ns zC) (fun h₄ hn₄ hs₄ => ?_) (by simp [compEnvC, relabel, hkind]))
    obtain ⟨oC', heC, hoC'⟩ := ns_obj hn₄
    refine hQ h₄ _ oC' _ (Nat.le_succ _) ⟨v, hv, by simp⟩ hoC' (F.change hs₄ hCL hC₀) ?_
    intro p hp
    have keepP : ∀ p ∈ [(I, oI), (C, oC), (D, lst ys)] ++ news, p.1 ≠ C → h₄.get? p.1 = some p.2 ∧ p.1 ≠ L ∧ h₀.get? p.1 = none := fun p hp hne => ⟨hs₄.extBut _ _ hne (N p hp).1, (N p hp).2⟩
    simp only [List.cons_append, List.nil_append] at hp
    rcases List.mem_cons.mp hp with rfl | hp
    · exact keepP _ (by simp) (offC _ (by simp))
    · rcases List.mem_cons.mp hp with rfl | hp
      · exact ⟨heC, hCL, hC₀⟩
      · refine keepP p (by simp only [List.cons_append, List.nil_append]; exact List.mem_cons_of_mem _ (List.mem_cons_of_mem _ hp)) (offC p ?_)
        simp only [List.cons_append, List.nil_append]
        exact List.mem_cons_of_mem _ hp
  · rintro i I oI C oC D ys m₂ h₁ tk E' hi hV ⟨v, hv, h1⟩ hoC F N
    exact hTurn i v I oI C oC D ys m₂ h₁ tk E' hv hV hoC h1 F N
end
end

section
open PySem PySem.W PySem.Calls PyProof.Rows PyProof.Rows.LCg
set_option maxRecDepth 100000
section
variable {prog : Program} {w : World} {A : Around} {s : Shared} {K : Frag} {p : Program} {loose : List Str} {mean : ExcName → Option Value} {mg mb : Str → Option Value} {Q E : Value → Shared → Prop}
  {name qual : Str} {params : Arguments} {body : List Stmt} {scope : Scope} {dV kV doc pm cdv ct oc : Value} {an od : Option Addr} {osl : Array (Option Value)} {fI C : Addr} {rest : List Value} {binds : Addr → List (Str × Value)}

theorem enterMake (X : K.In s.heap) (T : Top p loose mean mg mb s.heap) (hm : makesIn K C = true) (hi : findIn K (.ref C) "__init__" = some (some (.ref fI))) (hf : isFn K (.ref fI) = true)
    (ho : K.lookup fI = some ⟨oc, od, .func (fnOf name qual params body scope dV kV doc pm an cdv ct), osl⟩) (hcd : codeIn K cdv qual = true) (hroom : (A.under (.builtin "type.__call__" ⟨.ref C :: rest, []⟩)).depth < recursionLimit)
    (hbind : ∀ x s, BindsTo s (fnOf name qual params body scope dV kV doc pm an cdv ct) ⟨.ref x :: rest, []⟩ (binds x)) (hloc : ∀ x, ∀ y ∈ binds x, scope.names.lookup y.1 = some .local)
    (h : ∀ (dd : Nat) ff gg uu x dx L h₁ tk, dd < recursionLimit → Fr s.heap L h₁ (fun y => (binds x).reverse.lookup y) → News s.heap L h₁ [(x, instObj C dx), (dx, dictOf [] 0)] → dx < x → x < L →
      wpAny (model prog w) (({ handled := A.handled, depth := dd, frames := ff, guards := gg, units := uu } : Around).deeper (envOf qual scope L fI cdv)) (execs body (envOf qual scope L fI cdv))
        (fun fl s' => (match fl with | .ret v => v | _ => .none) = Value.none ∧ Q (.ref x) s')
        (fun _ _ => False)
        { s with heap := h₁, toks := tk })
    (hcell : ∀ x ∈ scope.names, x.2 ≠ .cell) (hco : scope.isCoroutine = false) (hgen : scope.isGenerator = false) (hk : scope.kind = .function) :
    wpAny (model prog w) A (call (.ref C) rest []) Q E s := by
  refine wpAny_call ?_
  obtain ⟨hh, g, d, t, os⟩ := s
  refine make_core (makes_of X hm) (looks_findIn X hi) (fun self => bind_fn X self (beq_iff_eq.mp hf)) (.inl rfl) ?_
  have st : ∀ b o, hh.get? b = some o → ((hh.push emptyDict).push (instObj C hh.objs.size)).get? b = some o := fun b o e => Heap.get?_push_of_some _ (Heap.get?_push_of_some _ e)
  have X' := X.keeps st
  have T' := T.nolimit.keeps st
  have hx : ((hh.push emptyDict).push (instObj C hh.objs.size)).get? (hh.objs.size + 1) = some (instObj C hh.objs.size) := by
    rw [← Heap.size_push (h := hh) (o := emptyDict)]
    exact Heap.get?_push_size _ rfl
  have hdx : ((hh.push emptyDict).push (instObj C hh.objs.size)).get? hh.objs.size = some emptyDict := Heap.get?_push_of_some _ (Heap.get?_push_size _ rfl)
  have hsz : ((hh.push emptyDict).push (instObj C hh.objs.size)).objs.size = hh.objs.size + 1 + 1 := by rw [Heap.size_push, Heap.size_push]
  refine codeAny_call_def (fd := fnOf name qual params body scope dV kV doc pm an cdv ct) (body := body) (binds := binds (hh.objs.size + 1)) hroom (X' _ _ ho) rfl T' (codeRec_of X' hcd) rfl (hbind _ _) hcell (hloc _) (fun h₁ hns hk₁ => ?_) hco hgen hk
  have F : Fr hh ((hh.push emptyDict).push (instObj C hh.objs.size)).objs.size h₁ (fun y => (binds (hh.objs.size + 1)).reverse.lookup y) :=
    ⟨hns, fun b o e => hk₁ b o (st b o e), by rw [hsz]; exact Nat.le_succ_of_le (Nat.le_succ _)⟩
  have N : News hh ((hh.push emptyDict).push (instObj C hh.objs.size)).objs.size h₁ [(hh.objs.size + 1, instObj C hh.objs.size), (hh.objs.size, dictOf [] 0)] := by
    intro p hp
    rcases List.mem_cons.mp hp with rfl | hp
    · exact ⟨hk₁ _ _ hx, by rw [hsz]; exact Nat.ne_of_lt (Nat.lt_succ_self _), Heap.get?_none_of_le (Nat.le_succ _)⟩
    · rw [List.mem_singleton.mp hp]
      exact ⟨hk₁ _ _ hdx, by rw [hsz]; exact Nat.ne_of_lt (Nat.lt_succ_of_lt (Nat.lt_succ_self _)), Heap.get?_none_of_le (Nat.le_refl _)⟩
  refine wpAny_mono (h _ _ _ _ _ _ _ h₁ _ hroom F N (Nat.lt_succ_self _) (by rw [hsz]; exact Nat.lt_succ_self _)) (fun fl s' hl => ?_) fun _ _ y => y.elim
  exact hl
end
section
variable {prog : Program} {w : World} {A : Around} {E : Value → Shared → Prop} {s : Shared} {h₀ : Heap} {m : Str → Option Value} {env : Env}
/-- a loop over a text's signs; the ledger is free -/
theorem pyIter_text {xt : Str} {tx : Tok} {x : Str} {body : List Stmt} {Q : Flow → Shared → Prop} {news : List (Addr × Obj)} (J : Nat → (Str → Option Value) → List (Addr × Obj) → Prop)
    (hh : A.handled = none) (F : Fr h₀ env.locals s.heap m) (N : News h₀ env.locals s.heap news) (hj : J 0 m news)
    (turn : ∀ i c t m₁ nx h tk I oI, xt.cps[i]? = some c → J i m₁ nx → Fr h₀ env.locals h (fun y => if y = x then some (.str ⟨#[c]⟩ t) else m₁ y) → News h₀ env.locals h ((I, oI) :: nx) → (∀ p ∈ nx, p.1 ≠ I) →
      wpAny (model prog w) A (execs body env) (LPost h₀ env.locals { s with heap := h, toks := tk } I oI (J (i + 1)) Q) E { s with heap := h, toks := tk })
    (done : ∀ m₁ nx h tk, J xt.cps.size m₁ nx → Fr h₀ env.locals h m₁ → News h₀ env.locals h nx → Q .next { s with heap := h, toks := tk }) :
    wpAny (model prog w) A (pyIter (.str xt tx)) (fun it s₂ => LoopAtV prog w A h₀ env x body Q E it s₂) E s := by
  suffices key : ∀ (o : Obj) (St : Nat → Heap → Prop), Walks prog w A s.heap.objs.size [s.heap.objs.size] [s.heap.objs.size] xt.cps.size (SignAt xt) St → (∀ i h, St i h → ∃ o, h.get? s.heap.objs.size = some o) → St 0 (s.heap.push o) →
      LoopAtV prog w A h₀ env x body Q E (.ref s.heap.objs.size) { s with heap := s.heap.push o } by
    cases ha : xt.cps.all (· < 128)
    · exact wpAny_pyIter_wide ha (key _ _ (Walks.strWide hh _ xt tx) (fun i h q => by obtain ⟨o, e, _⟩ := q; exact ⟨o, e⟩) ⟨_, Heap.get?_push_size _ rfl, rfl, rfl⟩)
    · exact wpAny_pyIter_ascii ha (key _ _ (Walks.strAscii hh _ xt tx) (fun i h q => by obtain ⟨o, e, _⟩ := q; exact ⟨o, e⟩) ⟨_, Heap.get?_push_size _ rfl, rfl, rfl⟩)
  intro o St W hhas hst
  have N' : News h₀ env.locals (s.heap.push o) news := fun p hp => ⟨Heap.get?_push_of_some _ (N p hp).1, (N p hp).2⟩
  refine ⟨s.heap.objs.size, _, _, _, _, St, m, news, J, rfl, W, ?_, ?_, ?_, hst, F.push _, N', hj, ?_, ?_⟩
  · intro hm
    exact absurd F.ns.lt ((List.mem_singleton.mp hm) ▸ Nat.lt_irrefl _)
  · intro b hb
    rw [List.mem_singleton.mp hb]
    exact next_is_new F
  · intro p hp hI
    exact absurd (Heap.lt_size (N p hp).1) ((List.mem_singleton.mp hI) ▸ Nat.lt_irrefl _)
  · rintro i v m₁ nx s₁ own ⟨h, tk, rfl⟩ hin ⟨c, u, hc, rfl⟩ hJ hoff hown hget hall hst' F₁ N₁
    have hI0 : h₀.get? s.heap.objs.size = none := next_is_new F
    have hIL : s.heap.objs.size ≠ env.locals := Nat.ne_of_gt F.ns.lt
    cases eI : h.get? s.heap.objs.size with
    | none =>
      exfalso
      obtain ⟨o9, ho9⟩ := hhas _ _ hst'
      rw [eI] at ho9; cases ho9
    | some oI =>
    have hm : (s.heap.objs.size, oI) ∈ own := hall _ (List.mem_singleton.mpr rfl) hI0 oI eI
    have offI : ∀ p ∈ nx, p.1 ≠ s.heap.objs.size := fun p hp e => hoff p hp (List.mem_singleton.mpr e)
    have N₂ : News h₀ env.locals h ((s.heap.objs.size, oI) :: nx) := fun p hp => by
      rcases List.mem_cons.mp hp with rfl | hp
      · exact N₁ _ (List.mem_append.mpr (.inl hm))
      · exact N₁ _ (List.mem_append.mpr (.inr hp))
    refine wpAny_mono (turn i c u m₁ nx h tk _ oI hc hJ F₁ N₂ offI) (fun f s₂ p => ?_) fun _ _ e => e
    have fin : (∃ h' tk' m' nx', s₂ = { s with heap := h', toks := tk' } ∧ Fr h₀ env.locals h' m' ∧ News h₀ env.locals h' ((s.heap.objs.size, oI) :: nx') ∧ (∀ p ∈ nx', p.1 ≠ s.heap.objs.size) ∧ J (i + 1) m' nx') →
        LoopStepU h₀ env.locals [s.heap.objs.size] own (J (i + 1)) { s with heap := h, toks := tk } .next s₂ := by
      rintro ⟨h', tk', m', nx', e, F', N', ho, hJ'⟩
      refine ⟨rfl, h', tk', m', nx', e, F', fun p hp => ?_, fun p hp hq => ho p hp (List.mem_singleton.mp hq), hJ'⟩
      rcases List.mem_append.mp hp with hp | hp
      · have e1 : p.1 = s.heap.objs.size := List.mem_singleton.mp (hown p hp)
        have e2 := hget p hp
        rw [e1] at e2
        have e3 : p = (s.heap.objs.size, oI) := Prod.ext e1 (Option.some.inj (e2.symm.trans eI))
        rw [e3]
        exact N' _ (List.Mem.head _)
      · exact N' _ (List.Mem.tail _ hp)
    cases f with
    | ret v => exact .ret p
    | brk => exact .brk p
    | next => exact .next (fin p)
    | cont => exact .cont (fin p)
  · rintro h' tk m' news' F' N' _ hJ
    exact done m' news' h' tk hJ F' N'
end
end

section
open PySem PySem.W PySem.Calls PyProof.Rows
set_option maxRecDepth 100000
set_option maxHeartbeats 1000000

noncomputable def wsStep (st : Int × Int × Int × List Int) (c : Int) : Int × Int × Int × List Int :=
  if c = 32 then (st.1 + 1, st.2.1, st.2.2.1 + 1, st.2.2.2)
  else
    let b := st.2.2.1.toNat
    let cnt := if st.2.2.2.length ≤ b then st.2.2.2 ++ List.replicate (b - st.2.2.2.length + 1) 0 else st.2.2.2
    (st.1 + 1, st.2.1 + 1, 0, cnt.set b (cnt.getD b 0 + 1))
noncomputable def wsFold (l : List Int) : Int × Int × Int × List Int := l.foldl wsStep (0, 0, 0, [])
noncomputable def WsI (pre : List Int) (n nt b : Int) (count : List Int) : Prop := wsFold pre = (n, nt, b, count) ∧ 0 ≤ b ∧ b ≤ pre.length ∧ count.length ≤ pre.length ∧ pre.length ≤ 200
theorem ws_start : WsI [] 0 0 0 [] := ⟨rfl, Int.le_refl _, Int.le_refl _, Nat.le_refl _, by decide⟩
noncomputable abbrev wsP (n nt b : Int) (tn tt tb : Tok) (D : Addr) : List (Str × Value) := [(Str.ofString "n", .int n tn), (Str.ofString "nt", .int nt tt), (Str.ofString "b", .int b tb), (Str.ofString "count", .ref D)]
noncomputable def WsJ (m₀ : Str → Option Value) (tail : List (Addr × Obj)) (ws : Str) (i : Nat) (m' : Str → Option Value) (nx : List (Addr × Obj)) : Prop :=
  ∃ n nt b count tn tt tb D vs k, nx = (D, listOf (List.toArray vs) k) :: tail ∧ IntsAre vs count ∧ WsI ((KStt.codes ws).take i) n nt b count ∧ (∀ p ∈ tail, p.1 ≠ D) ∧
    (∀ p ∈ wsP n nt b tn tt tb D, m' p.1 = some p.2) ∧ (∀ z, z ≠ Str.ofString "ch" → (∀ p ∈ wsP n nt b tn tt tb D, z ≠ p.1) → ([] : List Str).contains z = false → m' z = m₀ z)
theorem ws_J0 {m : Str → Option Value} {tail : List (Addr × Obj)} {ws : Str} {t1 t2 t3 : Tok} {D : Addr} (h : ∀ p ∈ wsP 0 0 0 t1 t2 t3 D, m p.1 = some p.2) (hd : ∀ p ∈ tail, p.1 ≠ D) : WsJ m tail ws 0 m ((D, listOf #[] 0) :: tail) :=
  ⟨0, 0, 0, [], t1, t2, t3, D, [], 0, rfl, .nil, ws_start, hd, h, fun _ _ _ _ => rfl⟩
theorem code_of {ws : Str} {i c : Nat} (h : ws.cps[i]? = some c) (hw : ∀ c ∈ ws.cps.toList, c = 32 ∨ c = 9) (hz : ws.cps.size ≤ 200) : (c = 32 ∨ c = 9) ∧ (KStt.codes ws).take (i + 1) = (KStt.codes ws).take i ++ [(c : Int)] ∧ i < 200 ∧ ((KStt.codes ws).take i).length = i := by
  have hn' := KStt.code_at h
  have hi := (Array.getElem?_eq_some_iff.mp h)
  obtain ⟨h1, h2⟩ := hi
  refine ⟨hw c ?_, ?_, by omega, ?_⟩
  · rw [← h2]; simp
  · simp [List.take_add_one, hn']
  · rw [List.length_take, KStt.codes_length]
    have : ws.length = ws.cps.size := rfl
    omega
theorem wsFold_snoc {pre : List Int} {c : Int} : wsFold (pre ++ [c]) = wsStep (wsFold pre) c := by
  unfold wsFold; rw [List.foldl_append]; rfl
theorem ws_blank {pre pre' : List Int} {n nt b : Int} {count : List Int} {i : Nat} (i1 : wsFold pre = (n, nt, b, count)) (i2 : 0 ≤ b) (i3 : b ≤ i) (i4 : count.length ≤ i) (c3 : i < 200) (c2 : pre' = pre ++ [((32 : Nat) : Int)]) (c4 : pre.length = i) :
    WsI pre' (n + 1) nt (b + 1) count := by
  subst c2
  refine ⟨?_, by omega, ?_, ?_, ?_⟩
  · rw [wsFold_snoc, i1]; rfl
  · rw [List.length_append, List.length_singleton, c4]; omega
  · rw [List.length_append, List.length_singleton, c4]; omega
  · rw [List.length_append, List.length_singleton, c4]; omega
theorem ws_tab1 {pre pre' : List Int} {n nt b : Int} {count : List Int} {i : Nat} (i1 : wsFold pre = (n, nt, b, count)) (i2 : 0 ≤ b) (i3 : b ≤ i) (i4 : count.length ≤ i) (c3 : i < 200) (c2 : pre' = pre ++ [((9 : Nat) : Int)]) (c4 : pre.length = i)
    (hb : b < count.length) : WsI pre' (n + 1) (nt + 1) 0 (count.set b.toNat (count.getD b.toNat 0 + 1)) := by
  subst c2
  refine ⟨?_, by omega, ?_, ?_, ?_⟩
  · rw [wsFold_snoc, i1]
    unfold wsStep
    rw [if_neg (by decide)]
    simp only
    rw [if_neg (by omega)]
  · omega
  · rw [List.length_append, List.length_singleton, c4, List.length_set]; omega
  · rw [List.length_append, List.length_singleton, c4]; omega
theorem ws_tab2 {pre pre' : List Int} {n nt b : Int} {count : List Int} {i : Nat} (i1 : wsFold pre = (n, nt, b, count)) (i2 : 0 ≤ b) (i3 : b ≤ i) (i4 : count.length ≤ i) (c3 : i < 200) (c2 : pre' = pre ++ [((9 : Nat) : Int)]) (c4 : pre.length = i)
    (hb : (count.length : Int) ≤ b) : WsI pre' (n + 1) (nt + 1) 0 ((count ++ (List.replicate (b - (count.length : Int) + 1).toNat [0]).flatten).set b.toNat ((count ++ (List.replicate (b - (count.length : Int) + 1).toNat [0]).flatten).getD b.toNat 0 + 1)) := by
  subst c2
  have e : (List.replicate (b - (count.length : Int) + 1).toNat [(0 : Int)]).flatten = List.replicate (b.toNat - count.length + 1) 0 := by
    rw [List.flatten_replicate_singleton]
    congr 1
    omega
  rw [e]
  refine ⟨?_, by omega, ?_, ?_, ?_⟩
  · rw [wsFold_snoc, i1]
    unfold wsStep
    rw [if_neg (by decide)]
    simp only
    rw [if_pos (by omega)]
  · omega
  · rw [List.length_append, List.length_singleton, c4, List.length_set, List.length_append, List.length_replicate]; omega
  · rw [List.length_append, List.length_singleton, c4]; omega
theorem kstB_off {rest : Str → Option Value} {z : Str} : ∀ {ps : List (Str × Value)}, (∀ p ∈ ps, z ≠ p.1) → kstB rest ps z = rest z
  | [], _ => rfl
  | p :: r, h => by
    show (if z = p.1 then some p.2 else kstB rest r z) = rest z
    rw [if_neg (h p (.head _))]
    exact kstB_off fun q hq => h q (.tail _ hq)
theorem wsP_off {z : Str} {n nt b : Int} {tn tt tb : Tok} {D : Addr} (h : ∀ p ∈ wsP n nt b tn tt tb D, z ≠ p.1) : z ≠ Str.ofString "n" ∧ z ≠ Str.ofString "nt" ∧ z ≠ Str.ofString "b" ∧ z ≠ Str.ofString "count" :=
  ⟨h _ (List.Mem.head _), h _ (List.Mem.tail _ (List.Mem.head _)), h _ (List.Mem.tail _ (List.Mem.tail _ (List.Mem.head _))), h _ (List.Mem.tail _ (List.Mem.tail _ (List.Mem.tail _ (List.Mem.head _))))⟩
theorem wsP_on {z : Str} {n nt b : Int} {tn tt tb : Tok} {D : Addr} (h : z ≠ Str.ofString "n" ∧ z ≠ Str.ofString "nt" ∧ z ≠ Str.ofString "b" ∧ z ≠ Str.ofString "count") : ∀ p ∈ wsP n nt b tn tt tb D, z ≠ p.1 := by
  intro p hp
  simp only [wsP, List.mem_cons, List.not_mem_nil, or_false] at hp
  rcases hp with rfl | rfl | rfl | rfl
  · exact h.1
  · exact h.2.1
  · exact h.2.2.1
  · exact h.2.2.2
theorem kst_fr0 {h₀ h : Heap} {L : Addr} {x : Str} {ps : List (Str × Value)} {m₀ m₁ : Str → Option Value} (h1 : ∀ p ∈ ps, m₁ p.1 = some p.2) (h2 : ∀ z, z ≠ x → (∀ p ∈ ps, z ≠ p.1) → ([] : List Str).contains z = false → m₁ z = m₀ z)
    (F : Fr h₀ L h m₁) : Fr h₀ L h (kstB (fun z => if z = x then m₁ z else m₀ z) ps) := by
  have e : m₁ = kstB (fun z => if z = x then m₁ z else m₀ z) ps := by
    funext z
    refine (kstB_eq h1 fun hn => ?_).symm
    by_cases hz : z = x
    · simp [hz]
    · simp only [hz, if_false]; exact (h2 z hz hn rfl).symm
  rw [e] at F
  exact F
theorem news_ne {h₀ h : Heap} {L : Addr} {news : List (Addr × Obj)} {p q : Addr × Obj} (N : News h₀ L h news) (hp : p ∈ news) (hq : q ∈ news) (hc : p.2.cls ≠ q.2.cls) : @Ne Nat p.1 q.1 := fun e => by
  have h1 := (N p hp).1
  have h2 := (N q hq).1
  have e' : p.1 = q.1 := e
  rw [e', h2] at h1
  exact hc (by rw [Option.some.inj h1])
theorem ws_fin2 {h₀ h9 : Heap} {L : Addr} {m9 m₀ : Str → Option Value} {s : Shared} {ws : Str} {i : Nat} {I D D1 D2 D3 Dt x dx : Addr} {oI oD o1 o2 ot ox odx : Obj} {vs : List Value} {k tk : Nat} {n nt b : Int} {count : List Int} {tn tt tb : Tok} {Q : Flow → Shared → Prop}
    (F9 : Fr h₀ L h9 m9) (N9 : News h₀ L h9 [(D3, listOf (List.toArray vs) k), (D2, o2), (D1, o1), (I, oI), (D, oD), (Dt, ot), (x, ox), (dx, odx)])
    (l9 : D2 < D3 ∧ D1 < D3 ∧ I < D3 ∧ D < D3 ∧ Dt < D3 ∧ x < D3 ∧ dx < D3) (e1 : @Ne Nat Dt I) (e2 : @Ne Nat x I) (e3 : @Ne Nat dx I) (hI : IntsAre vs count) (hW : WsI ((KStt.codes ws).take (i + 1)) n nt b count)
    (p1 : ∀ p ∈ wsP n nt b tn tt tb D3, m9 p.1 = some p.2) (p2 : ∀ z, z ≠ Str.ofString "ch" → (∀ p ∈ wsP n nt b tn tt tb D3, z ≠ p.1) → ([] : List Str).contains z = false → m9 z = m₀ z) :
    LPost h₀ L s I oI (WsJ m₀ [(Dt, ot), (x, ox), (dx, odx)] ws (i + 1)) Q .next { s with heap := h9, toks := tk } := by
  refine ⟨_, _, _, _, rfl, F9, KStt.news_of N9 ?n, ?o, ⟨n, nt, b, _, tn, tt, tb, D3, vs, k, rfl, hI, hW, ?d, p1, p2⟩⟩
  case n => exact List.forall_mem_cons.mpr ⟨.tail _ (.tail _ (.tail _ (.head _))), List.forall_mem_cons.mpr ⟨.head _, List.forall_mem_cons.mpr ⟨.tail _ (.tail _ (.tail _ (.tail _ (.tail _ (.head _))))), List.forall_mem_cons.mpr ⟨.tail _ (.tail _ (.tail _ (.tail _ (.tail _ (.tail _ (.head _)))))), List.forall_mem_cons.mpr ⟨.tail _ (.tail _ (.tail _ (.tail _ (.tail _ (.tail _ (.tail _ (.head _))))))), List.forall_mem_nil _⟩⟩⟩⟩⟩
  case o => exact List.forall_mem_cons.mpr ⟨Nat.ne_of_gt l9.2.2.1, List.forall_mem_cons.mpr ⟨e1, List.forall_mem_cons.mpr ⟨e2, List.forall_mem_cons.mpr ⟨e3, List.forall_mem_nil _⟩⟩⟩⟩
  case d => exact List.forall_mem_cons.mpr ⟨Nat.ne_of_lt l9.2.2.2.2.1, List.forall_mem_cons.mpr ⟨Nat.ne_of_lt l9.2.2.2.2.2.1, List.forall_mem_cons.mpr ⟨Nat.ne_of_lt l9.2.2.2.2.2.2, List.forall_mem_nil _⟩⟩⟩
theorem ws_fin1 {h₀ h9 : Heap} {L : Addr} {m9 m₀ : Str → Option Value} {s : Shared} {ws : Str} {i : Nat} {I D3 Dt x dx : Addr} {oI ot ox odx : Obj} {vs : List Value} {k tk : Nat} {n nt b : Int} {count : List Int} {tn tt tb : Tok} {Q : Flow → Shared → Prop}
    (F9 : Fr h₀ L h9 m9) (N9 : News h₀ L h9 [(I, oI), (D3, listOf (List.toArray vs) k), (Dt, ot), (x, ox), (dx, odx)])
    (e0 : @Ne Nat D3 I) (e1 : @Ne Nat Dt I) (e2 : @Ne Nat x I) (e3 : @Ne Nat dx I) (d1 : @Ne Nat Dt D3) (d2 : @Ne Nat x D3) (d3 : @Ne Nat dx D3) (hI : IntsAre vs count) (hW : WsI ((KStt.codes ws).take (i + 1)) n nt b count)
    (p1 : ∀ p ∈ wsP n nt b tn tt tb D3, m9 p.1 = some p.2) (p2 : ∀ z, z ≠ Str.ofString "ch" → (∀ p ∈ wsP n nt b tn tt tb D3, z ≠ p.1) → ([] : List Str).contains z = false → m9 z = m₀ z) :
    LPost h₀ L s I oI (WsJ m₀ [(Dt, ot), (x, ox), (dx, odx)] ws (i + 1)) Q .next { s with heap := h9, toks := tk } := by
  refine ⟨_, _, _, _, rfl, F9, N9, ?o, ⟨n, nt, b, _, tn, tt, tb, D3, vs, k, rfl, hI, hW, ?d, p1, p2⟩⟩
  case o => exact List.forall_mem_cons.mpr ⟨e0, List.forall_mem_cons.mpr ⟨e1, List.forall_mem_cons.mpr ⟨e2, List.forall_mem_cons.mpr ⟨e3, List.forall_mem_nil _⟩⟩⟩⟩
  case d => exact List.forall_mem_cons.mpr ⟨d1, List.forall_mem_cons.mpr ⟨d2, List.forall_mem_cons.mpr ⟨d3, List.forall_mem_nil _⟩⟩⟩
theorem newObjs_of {h₀ h : Heap} {L : Addr} {a b : List (Addr × Obj)} (N : News h₀ L h a) (hs : ∀ p ∈ b, p ∈ a) : NewObjs h₀ h b := fun p hp => ⟨(N p (hs p hp)).1, (N p (hs p hp)).2.2⟩
noncomputable abbrev wsDict (w : World) (ws : Str) (t : Tok) (n nt : Int) (tn tt : Tok) (T : Addr) (z : Bool) (k1 k2 k3 k4 k5 : Tok) : Obj := dictOf
  [{ hash := PyData.keyHash w.params (Str.ofString "raw"), key := .str (Str.ofString "raw") k1, val := .str ws t },
   { hash := PyData.keyHash w.params (Str.ofString "n"), key := .str (Str.ofString "n") k2, val := .int n tn },
   { hash := PyData.keyHash w.params (Str.ofString "nt"), key := .str (Str.ofString "nt") k3, val := .int nt tt },
   { hash := PyData.keyHash w.params (Str.ofString "norm"), key := .str (Str.ofString "norm") k4, val := .ref T },
   { hash := PyData.keyHash w.params (Str.ofString "is_simple"), key := .str (Str.ofString "is_simple") k5, val := .bool z }] 5
noncomputable abbrev wsLed (w : World) (ws : Str) (t : Tok) (n nt b : Int) (tn tt tb : Tok) (x dx T Tc : Addr) (vs : List Value) (z : Bool) (k1 k2 k3 k4 k5 : Tok) : List (Addr × Obj) :=
  [(x, instObj 132 dx), (dx, wsDict w ws t n nt tn tt T z k1 k2 k3 k4 k5), (T, { cls := .type "tuple", data := .seq #[.ref Tc, .int b tb] }), (Tc, { cls := .type "tuple", data := .seq (List.toArray vs) })]
theorem init_call {w : World} {mean : ExcName → Option Value} {mg mb : Str → Option Value} {base : Heap} {dp un : Nat} {gd : Option (List Code)} {fr : List Env} {s : Shared}
    {Q E : Value → Shared → Prop} {ws : Str} {t : Tok}
    (H : Here w mean mg mb base dp un gd fr s.heap) (hw : ∀ c ∈ ws.cps.toList, c = 32 ∨ c = 9) (hz : ws.cps.size ≤ 200)
    (ret : ∀ (x dx T Tc : Addr) (n nt b : Int) (count : List Int) (tn tt tb : Tok) (vs : List Value) (z : Bool) (k1 k2 k3 k4 k5 : Tok) h' tk', wsFold (KStt.codes ws) = (n, nt, b, count) → IntsAre vs count → count.length ≤ 200 → 0 ≤ b → b ≤ 200 →
      (∀ b o, s.heap.get? b = some o → h'.get? b = some o) → NewObjs s.heap h' (wsLed w ws t n nt b tn tt tb x dx T Tc vs z k1 k2 k3 k4 k5) → Q (.ref x) { s with heap := h', toks := tk' }) :
    wpAny (model PR w) (AR dp un gd fr) (call (.ref 132) [.str ws t]) Q E s := by
  obtain ⟨X, T, B, hd, hu⟩ := H
  revert X; delta PR; k_fill; intro X
  k_with_none
  (k_with "storeName" => (dsimp only; walk_at "storeName"))
  (k_with "setItem ref int" => (dsimp only; walk_at "setItem ref int"))
  (k_with "newTuple" => (dsimp only; walk_at "newTuple"))
  (k_with "newList" => (dsimp only; walk_at "newList"))
  refine enterMake (rest := [.str ws t]) (binds := fun x => [(Str.ofString "self", .ref x), (Str.ofString "ws", .str ws t)]) X T (by k_is) (by k_is) (by k_is) (by k_is) (by k_is) (by k_room) (fun _ _ => BindsTo.of_eq rfl) (fun _ => locs rfl) ?_ (by decide) rfl rfl rfl
  intro dd ff gg uu x dx L h₁ tk₁ hdd F N lt1 lt2
  have lt3 : @LT.lt Nat _ dx x := lt1
  have lt4 : @LT.lt Nat _ x L := lt2
  clear lt1 lt2
  try dsimp only
  (try k_unmd)
  k_fold
  k_steps
  try dsimp only
  rename Fr _ _ _ _ => F1
  rename News _ _ _ _ => N1
  rename (_ ∧ _) => l1
  refine' pyIter_text (WsJ _ [_, _, _] ws) rfl F1 N1 (ws_J0 ?c1 ?c2) ?turn ?done
  case c1 => kst_all
  case c2 => k_all
  case turn =>
    rintro i c t2 m₁ nx h tk I oI hc ⟨n, nt, b, count, tn, tt, tb, D, vs, k, rfl, hI, ⟨i1, i2, i3, i4, i5⟩, hD, p1, p2⟩ F N off
    have F2 := kst_fr p1 p2 F
    obtain ⟨c1, c2, c3, c4⟩ := code_of hc hw hz
    clear F F1 N1 p1 p2
    rw [c4] at i3 i4 i5
    have d1 : @Ne Nat _ _ := hD _ (List.Mem.head _)
    have d2 : @Ne Nat _ _ := hD _ (List.Mem.tail _ (List.Mem.head _))
    have d3 : @Ne Nat _ _ := hD _ (List.Mem.tail _ (List.Mem.tail _ (List.Mem.head _)))
    have e0 : @Ne Nat _ _ := off _ (List.Mem.head _)
    have e1 : @Ne Nat _ _ := off _ (List.Mem.tail _ (List.Mem.head _))
    have e2 : @Ne Nat _ _ := off _ (List.Mem.tail _ (List.Mem.tail _ (List.Mem.head _)))
    have e3 : @Ne Nat _ _ := off _ (List.Mem.tail _ (List.Mem.tail _ (List.Mem.tail _ (List.Mem.head _))))
    dsimp only at d1 d2 d3 e0 e1 e2 e3
    clear hD off
    try dsimp only
    rcases c1 with rfl | rfl
    · k_unmd
      try k_fold
      k_steps
      rename Fr _ _ _ _ => F9
      rename News _ _ _ _ => N9
      refine' ws_fin1 F9 N9 e0 e1 e2 e3 d1 d2 d3 hI (ws_blank i1 i2 i3 i4 c3 c2 c4) ?a1 ?a2
      case a1 => kst_all
      case a2 =>
        intro z hz hp hc
        have q := wsP_off hp
        try dsimp only
        rw [if_neg q.2.2.1, if_neg q.1, if_neg hz, kstB_off (wsP_on q), hc]
        rfl
    · k_unmd
      try k_fold
      k_steps
      · rename Fr _ _ _ _ => F9
        rename News _ _ _ _ => N9
        rename (_ ∧ _) => l9
        refine' ws_fin2 F9 N9 l9 e1 e2 e3 (by assumption) (ws_tab2 i1 i2 i3 i4 c3 c2 c4 (by assumption)) ?a1 ?a2
        case a1 => kst_all
        case a2 =>
          intro z hz hp hc
          have q := wsP_off hp
          try dsimp only
          simp only [q.1, q.2.1, q.2.2.1, q.2.2.2, hz, if_false]
          rw [kstB_off (wsP_on q), hc]
          simp only [q.1, q.2.1, q.2.2.1, q.2.2.2, Bool.false_eq_true, if_false]
      · rename Fr _ _ _ _ => F9
        rename News _ _ _ _ => N9
        refine' ws_fin1 F9 N9 e0 e1 e2 e3 d1 d2 d3 (by assumption) (ws_tab1 i1 i2 i3 i4 c3 c2 c4 (by first | assumption | exact Int.not_le.mp (by assumption) | omega)) ?a1 ?a2
        case a1 => kst_all
        case a2 =>
          intro z hz hp hc
          have q := wsP_off hp
          try dsimp only
          simp only [q.1, q.2.1, q.2.2.1, q.2.2.2, hz, if_false]
          rw [kstB_off (wsP_on q), hc]
          simp only [q.1, q.2.1, q.2.2.1, q.2.2.2, Bool.false_eq_true, if_false]
  case done =>
    rintro m₁ nx h tk ⟨n, nt, b, count, tn, tt, tb, D, vs, k, rfl, hI, ⟨i1, i2, i3, i4, i5⟩, hD, p1, p2⟩ F N
    have F2 := kst_fr0 p1 p2 F
    have d1 : @Ne Nat _ _ := hD _ (List.Mem.head _)
    have d2 : @Ne Nat _ _ := hD _ (List.Mem.tail _ (List.Mem.head _))
    have d3 : @Ne Nat _ _ := hD _ (List.Mem.tail _ (List.Mem.tail _ (List.Mem.head _)))
    dsimp only at d1 d2 d3
    clear hD F F1 N1 p1 p2
    have hfull : (KStt.codes ws).take ws.cps.size = KStt.codes ws := by
      have e : ws.cps.size = (KStt.codes ws).length := (KStt.codes_length ws).symm
      rw [e, List.take_length]
    have hl4 : ((KStt.codes ws).take ws.cps.size).length = ws.cps.size := by rw [hfull, KStt.codes_length]; rfl
    rw [hl4] at i3 i4 i5
    rw [hfull] at i1
    dsimp only
    k_unmd
    try k_fold
    k_steps
    rename News _ _ _ _ => N9
    have n9 : @Ne Nat dx _ := news_ne N9 (.tail _ (.tail _ (.tail _ (.tail _ (.tail _ (.head _)))))) (.tail _ (.head _)) (by intro e; exact absurd (Value.type.inj e) (by decide))
    dsimp only at n9
    dsimp only
    k_unmd
    k_steps
    rename Fr _ _ _ _ => F8
    rename News _ _ _ _ => N8
    exact ret x dx _ _ n nt b count tn tt tb vs _ _ _ _ _ _ _ _ i1 hI (by omega) i2 (by omega) F8.keep (newObjs_of N8 (List.forall_mem_cons.mpr ⟨.tail _ (.tail _ (.tail _ (.tail _ (.head _)))), List.forall_mem_cons.mpr ⟨.tail _ (.tail _ (.tail _ (.tail _ (.tail _ (.head _))))), List.forall_mem_cons.mpr ⟨.head _, List.forall_mem_cons.mpr ⟨.tail _ (.head _), List.forall_mem_nil _⟩⟩⟩⟩))
end

section
open PySem PySem.W PySem.Calls PyProof.Rows
set_option maxRecDepth 100000
set_option maxHeartbeats 1000000
theorem item_tup_ints {prog : Program} {w : World} {A : Around} {E : Value → Shared → Prop} {s : Shared} {h₀ : Heap} {L : Addr} {news : List (Addr × Obj)} {value slice : PySem.Expr} {l : Addr} {vs : List Value} {ns : List Int} {k : Int} {u : Tok} {Q : Value → Shared → Prop}
    (N : News h₀ L s.heap news) (hm : (l, ({ cls := .type "tuple", data := .seq vs.toArray } : Obj)) ∈ news) (hi : IntsAre vs ns) (hz : vs.length ≤ 1000) (h0 : 0 ≤ k) (h1 : k < ns.length) (h : ∀ t, Q (.int (ns.getD k.toNat 0) t) s)
    (hs : subscripted slice false (.ref l) (.int k u) = operate [.ref l, .int k u] (getItem (.ref l) (.int k u)) := by with_unfolding_all rfl) (hg : ∀ r, letTemporaryGo value (.ref l) r = pure () := by intro _; with_unfolding_all rfl) :
    wpAny (model prog w) A (subscriptTail value slice (.ref l) (.int k u)) Q E s :=
  item_tuple_ints ⟨_, (N _ hm).1, rfl, _, rfl⟩ hi h0 h1 (by have := hi.length; omega) h hs hg
theorem longest_at {w : World} {mean : ExcName → Option Value} {mg mb : Str → Option Value} {base : Heap} {dp un : Nat} {gd : Option (List Code)} {fr : List Env} {s₀ s : Shared} {env : Env} {m : Str → Option Value}
    {Q E : Value → Shared → Prop} {ws : Str} {t : Tok} {n nt b : Int} {count : List Int} {tn tt tb : Tok} {x dx T' Tc : Addr} {vs : List Value} {z : Bool} {k1 k2 k3 k4 k5 : Tok} {rest : List (Addr × Obj)}
    (H : Here w mean mg mb base dp un gd fr s₀.heap) (F : Fr s₀.heap env.locals s.heap m) (N : News s₀.heap env.locals s.heap (wsLed w ws t n nt b tn tt tb x dx T' Tc vs z k1 k2 k3 k4 k5 ++ rest)) (hk : env.scope.kind = .function) (hf : env.frame = some env.locals)
    (hI : IntsAre vs count) (hb : 0 ≤ b) (hgt : b < count.length - 1) (hc : count.length ≤ 20)
    (ret : ∀ t' h' tk', s.toks ≤ t' → Fr s₀.heap env.locals h' m → News s₀.heap env.locals h' (wsLed w ws t n nt b tn tt tb x dx T' Tc vs z k1 k2 k3 k4 k5 ++ rest) → Q (.int (count.length - 1 : Int) t') { s with heap := h', toks := tk' }) :
    wpAny (model PR w) ((AR dp un gd fr).deeper env) (call (.ref 94) [.ref x]) Q E s := by
  obtain ⟨X, T, B, hd, hu⟩ := H
  revert X; delta PR; k_fill; intro X
  k_with_none
  (k_with "execs cons" => ((with_reducible refine wpAny_execs_cons ?_); try dsimp only))
  (k_with "call builtin:len" => (k_here; (with_reducible show wpAny _ _ (call (Value.builtin "len") [Value.ref _]) _ _ _); (rename News _ _ _ _ => N'); refine ktm_lenK N' (by k_mem) (by assumption) (by assumption) ?_))
  (k_with "subscriptTail Name Name ref int" => (k_here; (with_reducible show wpAny _ _ (subscriptTail _ _ (Value.ref _) (Value.int _ _)) _ _ _); (rename News _ _ _ _ => N'); refine item_tup_ints N' (by k_mem) (by assumption) (by assumption) (by omega) (by omega) ?_; intro _))
  (k_with "storeName" => (dsimp only; walk_at "storeName"))
  (k_with "setItem ref int" => (dsimp only; walk_at "setItem ref int"))
  (k_with "newTuple" => (dsimp only; walk_at "newTuple"))
  (k_with "newList" => (dsimp only; walk_at "newList"))
  refine wpAny_call ?_
  refine code_def (env := env) (binds := [(Str.ofString "self", .ref x)]) B F X N T rfl hf hk (by k_is) (by k_is) (by k_room) (BindsTo.of_eq rfl) (locs rfl) ?_ rfl rfl rfl (by decide)
  intro g' L' h' FG' F' N' B' X' T'
  have hvl : (vs.length : Int) = (count.length : Int) := by rw [hI.length]
  have hv1 : vs.length ≤ 1000 := by have := hI.length; omega
  try dsimp only
  (try simp only [List.cons_append, List.nil_append] at N')
  k_unmd
  try k_fold
  k_steps
  show Q (.int (if b > (count.length : Int) - 1 then _ else _) _) _
  rw [if_neg (by omega), if_neg (by omega)]
  exact ret _ _ _ (by show s.toks ≤ s.toks + 1 + 1 + 1 + 1 + 1 + 1 + 1; omega) (by assumption) (by assumption)

end

section
open PySem PySem.W PySem.Calls PyProof.Rows
set_option maxRecDepth 100000
set_option maxHeartbeats 1000000
theorem ind0 {count : List Int} : (0 : Int) = ((count.drop 6).take ([] : List Int).length).sum ∧ (0 : Int) ≤ 0 ∧ (0 : Int) ≤ 200 * (([] : List Int).length : Int) := ⟨by simp, Int.le_refl _, by simp⟩
theorem ind1 {count pre : List Int} {il k : Int} (h1 : il = ((count.drop 6).take pre.length).sum) (h2 : 0 ≤ il) (h3 : il ≤ 200 * (pre.length : Int)) (he : k = 6 + (pre.length : Int)) (hl : pre.length < ((count.length : Int) - 6).toNat) (hc : count.length ≤ 12) (hx : ∀ y ∈ count, 0 ≤ y ∧ y ≤ 200) :
    il + k.fdiv 6 * count.getD k.toNat 0 = ((count.drop 6).take (pre ++ [k]).length).sum ∧ 0 ≤ il + k.fdiv 6 * count.getD k.toNat 0 ∧ il + k.fdiv 6 * count.getD k.toNat 0 ≤ 200 * ((pre ++ [k]).length : Int) := by
  have hk : k.toNat < count.length := by omega
  have hq : k.fdiv 6 = 1 := by
    have h3 : k = 6 ∨ k = 7 ∨ k = 8 ∨ k = 9 ∨ k = 10 ∨ k = 11 := by omega
    rcases h3 with rfl | rfl | rfl | rfl | rfl | rfl <;> rfl
  have hg : count.getD k.toNat 0 = count[k.toNat] := by simp [hk]
  have hb := hx _ (List.getElem_mem hk)
  have hs : (count.drop 6).take (pre ++ [k]).length = (count.drop 6).take pre.length ++ [count[k.toNat]] := by
    rw [List.length_append, List.length_singleton, List.take_add_one, List.getElem?_drop, List.getElem?_eq_getElem (by omega)]
    have : 6 + pre.length = k.toNat := by omega
    simp only [this]
    rfl
  rw [hs, List.sum_append, ← h1, hq, hg, List.length_append, List.length_singleton]
  refine ⟨by simp, by omega, by omega⟩
theorem ind2 {count : List Int} {k : Nat} {il : Int} (h : il = ((count.drop 6).take k).sum) (hk : k = (rangeKs 6 ((count.length : Int) - 6).toNat).length) : il = (count.drop 6).sum := by
  rw [h, hk, rangeKs_length, List.take_of_length_le (by rw [List.length_drop]; omega)]
theorem indent_at {w : World} {mean : ExcName → Option Value} {mg mb : Str → Option Value} {base : Heap} {dp un : Nat} {gd : Option (List Code)} {fr : List Env} {s₀ s : Shared} {env : Env} {m : Str → Option Value}
    {Q E : Value → Shared → Prop} {ws : Str} {t t6 : Tok} {n nt b : Int} {count : List Int} {tn tt tb : Tok} {x dx T' Tc : Addr} {vs : List Value} {z : Bool} {k1 k2 k3 k4 k5 : Tok} {rest : List (Addr × Obj)}
    (H : Here w mean mg mb base dp un gd fr s₀.heap) (F : Fr s₀.heap env.locals s.heap m) (N : News s₀.heap env.locals s.heap (wsLed w ws t n nt b tn tt tb x dx T' Tc vs z k1 k2 k3 k4 k5 ++ rest)) (hk : env.scope.kind = .function) (hf : env.frame = some env.locals)
    (hI : IntsAre vs count) (hb : 0 ≤ b) (hb2 : b ≤ 200) (hnt : 0 ≤ nt ∧ nt ≤ 200) (hc : count.length ≤ 12) (hx : ∀ y ∈ count, 0 ≤ y ∧ y ≤ 200)
    (ret : ∀ t' h' tk', Fr s₀.heap env.locals h' m → News s₀.heap env.locals h' (wsLed w ws t n nt b tn tt tb x dx T' Tc vs z k1 k2 k3 k4 k5 ++ rest) → Q (.int (b + 6 * ((count.drop 6).sum + nt)) t') { s with heap := h', toks := tk' }) :
    wpAny (model PR w) ((AR dp un gd fr).deeper env) (call (.ref 101) [.ref x, .int 6 t6]) Q E s := by
  obtain ⟨X, T, B, hd, hu⟩ := H
  revert X; delta PR; k_fill; intro X
  k_with_none
  (k_with "call builtin:len" => (k_here; (with_reducible show wpAny _ _ (call (Value.builtin "len") [Value.ref _]) _ _ _); (rename News _ _ _ _ => N'); refine ktm_lenK N' (by k_mem) (by assumption) (by assumption) ?_))
  (k_with "subscriptTail Name Name ref int" => (k_here; (with_reducible show wpAny _ _ (subscriptTail _ _ (Value.ref _) (Value.int _ _)) _ _ _); (rename News _ _ _ _ => N'); refine item_tup_ints N' (by k_mem) (by assumption) (by assumption) (by omega) (by omega) ?_; intro _))
  (k_with "storeName" => (dsimp only; walk_at "storeName"))
  (k_with "setItem ref int" => (dsimp only; walk_at "setItem ref int"))
  (k_with "newTuple" => (dsimp only; walk_at "newTuple"))
  (k_with "newList" => (dsimp only; walk_at "newList"))
  refine wpAny_call ?_
  refine code_def (env := env) (binds := [(Str.ofString "self", .ref x), (Str.ofString "tabsize", .int 6 t6)]) B F X N T rfl hf hk (by k_is) (by k_is) (by k_room) (BindsTo.of_eq rfl) (locs rfl) ?_ rfl rfl rfl (by decide)
  intro g' L' h' FG' F' N' B' X' T'
  have hvl : (vs.length : Int) = (count.length : Int) := by rw [hI.length]
  have hv1 : vs.length ≤ 1000 := by have := hI.length; omega
  try dsimp only
  (try simp only [List.cons_append, List.nil_append] at N')
  k_unmd
  try k_fold
  (k_with "pyIter ref" => (k_of "i" => (k_state (fun pre il => il = ((count.drop 6).take pre.length).sum ∧ 0 ≤ il ∧ il ≤ 200 * pre.length) "il"; skip)))
  (k_with "state" => first
    | exact ind0
    | exact ind1 (by assumption) (by assumption) (by assumption) (by assumption) (by assumption) hc hx
    | fail "state")
  k_steps
  rename (_ = List.sum _) => e9
  have e8 := ind2 e9 rfl
  show Q (.int (b + 6 * (_ + nt)) _) _
  rw [e8]
  exact ret _ _ _ (by assumption) (by assumption)

end

section
open PySem PySem.W PySem.Calls PyProof.Rows PyProof.Rows.LCg
set_option maxRecDepth 100000

/-- a turn's end of a loop over enumerate(list) -/
noncomputable def EPost (h₀ : Heap) (L : Addr) (s : Shared) (nw : List (Addr × Obj)) (J : (Str → Option Value) → Prop) (Q : Flow → Shared → Prop) (f : Flow) (s₂ : Shared) : Prop :=
  match f with
  | .ret v => Q (.ret v) s₂
  | .brk => Q .next s₂
  | _ => ∃ h' tk' m', s₂ = { s with heap := h', toks := tk' } ∧ Fr h₀ L h' m' ∧ News h₀ L h' nw ∧ J m'

noncomputable abbrev enumO (it : Addr) (i : Int) (item : Value) : Obj := { cls := .type "enumerate", dict := none, data := .fields #[.none, .bool false, .ref it, rawInt i, .none, item], slots := #[] }

section
variable {prog : Program} {w : World} {A : Around} {E : Value → Shared → Prop} {s : Shared} {h₀ : Heap} {m : Str → Option Value} {env : Env}

theorem For_enum {xi xv : Str} {pi pv pt pos : Pos} {x1} {iter : Expr} {body orelse : List Stmt} {Q : Flow → Shared → Prop} {l : Addr} {vs : List Value}
    (P : Nat → Prop)
    (hh : A.handled = none) (_F₀ : Fr h₀ env.locals s.heap m) (hl : h₀.IsList l vs.toArray)
    (hs : ∀ x, foldedSetIterable iter env x = pure x) (hxi : env.kindOf xi = some .local) (hxv : env.kindOf xv = some .local) (hp : (env.scope.kind == .class || (env.scope.kind == .module && env.locals != env.globals)) = false)
    (hev : wpAny (model prog w) A (eval iter env) (fun x s₁ => ∃ e it h' tk, x = .ref e ∧ e ≠ it ∧ s₁ = { s with heap := h', toks := tk } ∧ IsEnum h' e it 0 .none ∧ h'.IsListIter it l 0 ∧ Fr h₀ env.locals h' m ∧ h₀.get? e = none ∧ h₀.get? it = none ∧ e ≠ env.locals ∧ it ≠ env.locals) (fun _ _ => False) s)
    (hP : P 0)
    (turn : ∀ i v t h tk e it oe oi, vs[i]? = some v → P i → Fr h₀ env.locals h (fun y => if y = xv then some v else if y = xi then some (.int (i : Nat) t) else m y) → News h₀ env.locals h [(e, oe), (it, oi)] →
      wpAny (model prog w) A (execs body env) (EPost h₀ env.locals { s with heap := h, toks := tk } [(e, oe), (it, oi)] (fun m' => Same [xv, xi] m m' ∧ P (i + 1)) Q) (fun _ _ => False) { s with heap := h, toks := tk })
    (done : P vs.length → False) :
    wpAny (model prog w) A (exec (.For (.Tuple [.Name xi pi, .Name xv pv] x1 pt) iter body orelse pos) env) Q E s := by
  refine wpAny_noRaise (wpAny_For (wpAny_mono hev (fun x s₁ q => ?_) fun _ _ e => e) hs)
  obtain ⟨e, it, H, tk₁, rfl, hei, rfl, he, hit, F, he0, hi0, heL, hiL⟩ := q
  refine wpAny_pyIter_enum he ?_
  have hle : l ≠ e := fun q => by obtain ⟨o, x, _⟩ := hl; rw [q, he0] at x; cases x
  have hli : l ≠ it := fun q => by obtain ⟨o, x, _⟩ := hl; rw [q, hi0] at x; cases x
  refine codeAny_forLoop_any (fun k s' => ∃ h' tk i m' old, s' = { s with heap := h', toks := tk } ∧ i ≤ vs.length ∧ k = vs.length + 1 - i ∧ IsEnum h' e it ((i : Nat) : Int) old ∧ h'.IsListIter it l i ∧ Fr h₀ env.locals h' m' ∧ Same [xv, xi] m m' ∧ P i) ?_ (vs.length + 1)
    ⟨H, _, 0, m, .none, rfl, Nat.zero_le _, rfl, he, hit, F, Same.refl, hP⟩
  rintro k s' ⟨h', tk, i, m', old, rfl, hi, rfl, he', hit', F', hS, hPi⟩
  have hl' : h'.IsList l vs.toArray := hl.at fun o x => F'.keep l o x
  by_cases hlt : i < vs.length
  · have heH : e < h'.objs.size := Heap.lt_size he'
    have hLH : env.locals < h'.objs.size := F'.ns.lt
    refine wpAny_pyNext_enum_item he' hit' hl' (x := vs[i]) (by simp [hlt]) hei fun h₁ heo hit₁ ht₁ hz₁ hk₁ => ?_
    refine wpAny_letOwnedTupleGo_enum heo fun h₂ he₂ hs₂ => ?_
    replace hs₂ : Heap.SameBut e h₁ h₂ := hs₂
    have ht₂ : h₂.IsTuple h'.objs.size #[.int i tk, vs[i]] := ⟨_, (hs₂.2 _ (Nat.ne_of_gt heH)).trans ht₁, rfl, _, rfl⟩
    have k₂ : ∀ b o, b ≠ e → b ≠ it → h'.get? b = some o → h₂.get? b = some o := fun b o hbe hbi x => hs₂.extBut b o hbe (hk₁ b o hbe hbi x)
    have F₂ : Fr h₀ env.locals h₂ m' := ⟨F'.ns.at' fun o x => k₂ _ o (Ne.symm heL) (Ne.symm hiL) x, fun b o x => k₂ b o (fun q => by rw [q, he0] at x; cases x) (fun q => by rw [q, hi0] at x; cases x) (F'.keep b o x), F'.above⟩
    have hit₂ : h₂.IsListIter it l (i + 1) := hit₁.extBut hs₂.extBut (Ne.symm hei)
    obtain ⟨oi, hoi, hri⟩ := id hit₂
    have N₂ : News h₀ env.locals h₂ [(e, enumO it ((i : Int) + 1) vs[i]), (it, oi)] := fun p hp => by
      rcases List.mem_cons.mp hp with rfl | hp
      · exact ⟨he₂, heL, he0⟩
      · rw [List.mem_singleton.mp hp]; exact ⟨hoi, hiL, hi0⟩
    refine assign_Tuple_tuple (items := #[_, _]) hh ht₂ rfl rfl fun h₃ hx₃ => ?_
    have up : ∀ b o, h₂.get? b = some o → h₃.get? b = some o := fun b o e => hx₃ b o (Nat.ne_of_lt (Heap.lt_size e)) e
    have F₃ := F₂.keeps up
    have N₃ := N₂.grown up
    refine assignInOrder_cons (wpAny_assign_Name (wpAny_storeName_local hxi F₃.ns (fun h₄ hn₄ hs₄ => ?_) hp))
    have F₄ := F₃.set hn₄ hs₄
    have N₄ := N₃.set hs₄
    refine assignInOrder_cons (wpAny_assign_Name (wpAny_storeName_local hxv F₄.ns (fun h₅ hn₅ hs₅ => ?_) hp))
    refine assignInOrder_nil ?_
    have F₅ := F₄.set hn₅ hs₅
    have N₅ := N₄.set hs₅
    have eq : (fun y => if y = xv then some vs[i] else if y = xi then some (Value.int (i : Nat) tk) else m' y) = fun y => if y = xv then some vs[i] else if y = xi then some (Value.int (i : Nat) tk) else m y := by
      funext y
      by_cases hy : y = xv
      · rw [if_pos hy, if_pos hy]
      · rw [if_neg hy, if_neg hy]
        by_cases hy2 : y = xi
        · rw [if_pos hy2, if_pos hy2]
        · rw [if_neg hy2, if_neg hy2]
          exact hS y (by simp [hy, hy2])
    rw [eq] at F₅
    refine wpAny_mono (turn i _ tk h₅ _ e it _ oi (by simp [hlt]) hPi F₅ N₅) (fun f s₃ q => ?_) fun _ _ x => x.elim
    have fin : (∃ h' tk' m', s₃ = { s with heap := h', toks := tk' } ∧ Fr h₀ env.locals h' m' ∧ News h₀ env.locals h' [(e, enumO it ((i : Int) + 1) vs[i]), (it, oi)] ∧ (Same [xv, xi] m m' ∧ P (i + 1))) →
        ∃ k, k < vs.length + 1 - i ∧ ∃ h' tk i m' old, s₃ = { s with heap := h', toks := tk } ∧ i ≤ vs.length ∧ k = vs.length + 1 - i ∧ IsEnum h' e it ((i : Nat) : Int) old ∧ h'.IsListIter it l i ∧ Fr h₀ env.locals h' m' ∧ Same [xv, xi] m m' ∧ P i := by
      rintro ⟨h6, tk6, m6, rfl, F6, N6, S6, P6⟩
      refine ⟨vs.length + 1 - (i + 1), by omega, h6, tk6, i + 1, m6, vs[i], rfl, hlt, rfl, ?_, ⟨oi, (N6 _ (List.Mem.tail _ (List.Mem.head _))).1, hri⟩, F6, S6, P6⟩
      have e1 : ((i + 1 : Nat) : Int) = (i : Int) + 1 := by omega
      rw [e1]
      exact (N6 _ (List.Mem.head _)).1
    cases f with
    | ret v => exact q
    | brk => exact q
    | next => exact fin q
    | cont => exact fin q
  · obtain rfl : i = vs.length := Nat.le_antisymm hi (Nat.not_lt.mp hlt)
    exact (done hPi).elim
end
end

section
open PySem PySem.W PySem.Calls PyProof.Rows
set_option maxRecDepth 100000
set_option maxHeartbeats 2000000
theorem is_int_tok {M : Model} {A : Around} {E : Value → Shared → Prop} {s : Shared} {a b : Int} {t u : Tok} {Q : Value → Shared → Prop} (ht : t ≠ 0) (hu : u ≠ 0) (htu : t ≠ u) (hb : smallInt b = true) (h : Q (.bool (a == b)) s) :
    wpAny M A (compareOp .Is (.int a t) (.int b u)) Q E s := by
  show wpAny M A (do return .bool (← isSame (.int a t) (.int b u))) Q E s
  refine wpAny_bind ?_
  have e0 : (t == 0 || u == 0) = false := by simp [ht, hu]
  show wpAny M A (if (a == b && smallInt a) = true then isSame.cachedInt t u else isSame.created (a == b) t u) _ E s
  by_cases hab : a = b
  · subst hab
    rw [hb, if_pos (by simp)]
    unfold isSame.cachedInt
    rw [e0]
    simp only [Bool.false_eq_true, if_false]
    refine wpAny_bind (wpAny_rule (wpAny_pure (wpAny_pure ?_)))
    simpa using h
  · have hf : (a == b) = false := by simpa using hab
    rw [hf] at h ⊢
    rw [if_neg (by simp)]
    unfold isSame.created
    rw [e0]
    have e1 : (t == u) = false := by simpa using htu
    simp only [Bool.false_eq_true, if_false, e1, Bool.not_false, if_true]
    exact wpAny_pure (wpAny_pure h)
theorem indexof_call {w : World} {mean : ExcName → Option Value} {mg mb : Str → Option Value} {base : Heap} {dp un : Nat} {gd : Option (List Code)} {fr : List Env} {s : Shared}
    {Q E : Value → Shared → Prop} {l : Addr} {vs : List Value} {ns : List Int} {n : Int} {t : Tok}
    (H : Here w mean mg mb base dp un gd fr s.heap) (hl : s.heap.IsList l vs.toArray) (hi : IntsAre vs ns) (hn : n ∈ ns) (ht0 : t ≠ 0) (htv : ∀ x tx, Value.int x tx ∈ vs → tx ≠ 0 ∧ tx ≠ t) (hsm : smallInt n = true)
    (ret : ∀ (k : Nat) t h' tk', ns[k]? = some n → (∀ k', k' < k → ns[k']? ≠ some n) → (∀ b o, s.heap.get? b = some o → h'.get? b = some o) → Q (.int (k : Int) t) { s with heap := h', toks := tk' }) :
    wpAny (model PR w) (AR dp un gd fr) (call (.ref 63) [.ref l, .int n t]) Q E s := by
  obtain ⟨X, T, B, hd, hu⟩ := H
  revert X; delta PR; k_fill; intro X
  k_with_none
  (k_with "storeName" => (dsimp only; walk_at "storeName"))
  (k_with "setItem ref int" => (dsimp only; walk_at "setItem ref int"))
  (k_with "newTuple" => (dsimp only; walk_at "newTuple"))
  (k_with "newList" => (dsimp only; walk_at "newList"))
  (k_with "call type:enumerate" => (k_here; refine call_enumerate_list (by with_reducible assumption) ?_))
  (k_with "compareOp Is int int" => (k_here; refine is_int_tok (And.left (by assumption)) (by assumption) (And.right (by assumption)) (by assumption) ?_))
  refine enter (binds := [(Str.ofString "a", .ref l), (Str.ofString "b", .int n t)]) (args := ⟨[.ref l, .int n t], []⟩) X T (by k_is) (by k_is) (by k_room) (BindsTo.of_eq rfl) (locs rfl) ?_ (by decide) rfl rfl rfl
  intro L h₁ tk₁ F N
  try dsimp only
  k_fold
  k_steps
  refine For_enum (vs := vs) (l := l) (fun i => ∀ k, k < i → ns[k]? ≠ some n) rfl F hl (fun _ => rfl) rfl rfl rfl ?hev (fun _ h => absurd h (Nat.not_lt_zero _)) ?turn ?done
  case done =>
    intro h
    obtain ⟨k, hk, e⟩ := List.mem_iff_getElem.mp hn
    exact h k (by rw [hi.length]; exact hk) (by rw [List.getElem?_eq_getElem hk, e])
  case hev =>
    have hl1 : Heap.IsList (Shared.heap { s with heap := h₁, toks := tk₁ }) l vs.toArray := hl.at fun o e => F.keep l o e
    try k_fold
    k_steps
    all_goals first
      | exact Nat.succ_ne_self _
      | assumption
      | exact F.keeps (by assumption)
      | exact ktu_new F (Nat.le_add_right _ _)
      | exact ktu_new F (Nat.le_refl _)
      | exact Ne.symm (ktu_ne 1 F.ns.lt)
      | exact Ne.symm (Nat.ne_of_lt F.ns.lt)
  case turn =>
    intro i v tv h tk e it oe oi hv hP F N
    obtain ⟨x, tx, rfl, hx⟩ := hi.at i v hv
    have ht9 := htv x tx (List.mem_of_getElem? hv)
    k_unmd
    k_fold
    k_steps
    · refine ret i tv _ _ (hx.trans (congrArg some ?_)) hP F.keep
      first | assumption | (symm; assumption) | simp_all
    · refine ret i tv _ _ (hx.trans (congrArg some ?_)) hP F.keep
      first | assumption | (symm; assumption)
    · refine ⟨_, _, _, rfl, F, N, ?_, ?_⟩
      · intro z hz
        simp only [List.contains_cons, List.contains_nil, Bool.or_false, Bool.or_eq_false_iff, beq_eq_false_iff_ne, ne_eq] at hz
        simp [hz.1, hz.2]
      · intro k hk
        by_cases hki : k = i
        · subst hki; rw [hx]; intro e
          have e' : x = n := Option.some.inj e
          first | exact absurd e' (by assumption) | simp_all
        · exact hP k (by omega)
end

section
open PySem PySem.W PySem.Calls PyProof.Rows
set_option maxRecDepth 100000
set_option maxHeartbeats 2000000

noncomputable def hexF : Nat → Nat → List Int
  | 0, _ => []
  | k + 1, m => if m = 0 then [] else hexF k (m / 16) ++ [((65 + m % 16 : Nat) : Int)]
noncomputable def HexI (n : Nat) (num : Int) (val : Array UInt8) : Prop := ∃ (m k : Nat) (ks : List Int), num = (m : Int) ∧ m < 16 ^ k ∧ k ≤ 6 ∧ ks.length + k ≤ 6 ∧ KBw.bInts val = ks ∧ hexF k m ++ ks = hexF 6 n
theorem hex0 {n : Nat} (hn : n < 16 ^ 6) : HexI n (if -(n : Int) < 0 then - -(n : Int) else -(n : Int)) #[] := by
  refine ⟨n, 6, [], ?_, hn, Nat.le_refl _, Nat.le_refl _, rfl, by simp⟩
  split <;> omega
noncomputable def apCut (r : Int) : List Int := List.take
    ((some (r + 1)).elim [(65 : Int), 66, 67, 68, 69, 70, 71, 72, 73, 74, 75, 76, 77, 78, 79, 80].length (clipAt [(65 : Int), 66, 67, 68, 69, 70, 71, 72, 73, 74, 75, 76, 77, 78, 79, 80].length) -
      (some r).elim 0 (clipAt [(65 : Int), 66, 67, 68, 69, 70, 71, 72, 73, 74, 75, 76, 77, 78, 79, 80].length))
    (List.drop ((some r).elim 0 (clipAt [(65 : Int), 66, 67, 68, 69, 70, 71, 72, 73, 74, 75, 76, 77, 78, 79, 80].length)) [65, 66, 67, 68, 69, 70, 71, 72, 73, 74, 75, 76, 77, 78, 79, 80])
theorem apCut_eq : ∀ q : Fin 16, apCut (q.val : Int) = [((65 + q.val : Nat) : Int)] := by decide +kernel
theorem hex1 {n m k : Nat} {ks : List Int} {num : Int} {v : Array UInt8} (h1 : num = (m : Int)) (h2 : m < 16 ^ k) (h3 : k ≤ 6) (h4 : ks.length + k ≤ 6) (h6 : hexF k m ++ ks = hexF 6 n) (hne : num ≠ 0)
    (ha : KBw.bInts v = apCut (num.fmod 16) ++ ks) : HexI n (num.fdiv 16) v := by
  subst h1
  have hm : m ≠ 0 := by omega
  cases k with
  | zero => exact absurd h2 (by simp; omega)
  | succ k =>
    have e1 : Int.fmod (m : Int) 16 = ((m % 16 : Nat) : Int) := by rw [Int.fmod_eq_emod_of_nonneg _ (by decide)]; rfl
    have e2 : Int.fdiv (m : Int) 16 = ((m / 16 : Nat) : Int) := by rw [Int.fdiv_eq_ediv_of_nonneg _ (by decide)]; rfl
    rw [e1, apCut_eq ⟨m % 16, Nat.mod_lt _ (by decide)⟩] at ha
    refine ⟨m / 16, k, _, e2, ?_, by omega, ?_, ha, ?_⟩
    · rw [Nat.pow_succ] at h2; exact Nat.div_lt_of_lt_mul (by omega)
    · simp; omega
    · rw [← h6]; show _ = (if m = 0 then [] else hexF k (m / 16) ++ [((65 + m % 16 : Nat) : Int)]) ++ ks
      rw [if_neg hm, List.append_assoc]
theorem hex2 {n m k : Nat} {ks : List Int} {num : Int} (h1 : num = (m : Int)) (h6 : hexF k m ++ ks = hexF 6 n) (h0 : num = 0) : ks = hexF 6 n := by
  have : m = 0 := by omega
  subst this
  rw [← h6]
  cases k <;> rfl
theorem hexM {m : Nat} {num : Int} (h1 : num = (m : Int)) (hne : num ≠ 0) : (num.fdiv 16).toNat < num.toNat := by
  subst h1
  rw [Int.fdiv_eq_ediv_of_nonneg _ (by decide)]
  omega

theorem int2ap_call {w : World} {mean : ExcName → Option Value} {mg mb : Str → Option Value} {base : Heap} {dp un : Nat} {gd : Option (List Code)} {fr : List Env} {s : Shared}
    {Q E : Value → Shared → Prop} {n : Nat} {t : Tok}
    (H : Here w mean mg mb base dp un gd fr s.heap) (hn : n < 16 ^ 6)
    (ret : ∀ (b : Array UInt8) t' h' tk', KBw.bInts b = hexF 6 n → (∀ b o, s.heap.get? b = some o → h'.get? b = some o) → Q (.bytes b t') { s with heap := h', toks := tk' }) :
    wpAny (model PR w) (AR dp un gd fr) (call (.ref 70) [.int (-(n : Int)) t]) Q E s := by
  obtain ⟨X, T, B, hd, hu⟩ := H
  revert X; delta PR; k_fill; intro X
  k_with_none
  (k_with "storeName" => (dsimp only; walk_at "storeName"))
  (k_with "subscriptTail" => (k_here; (with_reducible show wpAny _ _ (subscriptTail _ (Expr.Slice _ _ none _) (Value.bytes _ _) (Value.ref _)) _ _ _); (with_reducible rename Fr _ _ _ _ => F'); (with_reducible rename News _ _ _ _ => N'); (refine KBc.slice_K (ks := [65, 66, 67, 68, 69, 70, 71, 72, 73, 74, 75, 76, 77, 78, 79, 80]) (s := ⟨_, _, _, _, _⟩) F' N' (by rfl) (by constructor) (by constructor) (by decide) ?_); intro _ _ _ _ _ kbcK))
  refine enter (binds := [(Str.ofString "num", .int (-(n : Int)) t)]) (args := ⟨[.int (-(n : Int)) t], []⟩) X T (by k_is) (by k_is) (by k_room) (BindsTo.of_eq rfl) (locs rfl) ?_ (by decide) rfl rfl rfl
  intro L h₁ tk₁ F N
  try dsimp only
  (try k_unmd)
  k_fold
  (k_with "exec While" => (k_while (fun _ num val => HexI n num val) (fun _ num _ => num.toNat) "num" "val"; (unfold HexI at kInv); (obtain ⟨m9, k9, ks9, hm1, hm2, hm3, hm4, hm5, hm6⟩ := kInv); (have hm7 : ks9.length ≤ 6 := by omega)))
  (k_with "state" => first
    | exact hex0 hn
    | exact hex1 hm1 hm2 hm3 hm4 hm6 (by assumption) (by assumption)
    | fail "state")
  (k_with "measure" => exact hexM hm1 (by assumption))
  k_steps
  show Q (.bytes _ _) _
  exact ret _ _ _ _ (hm5.trans (hex2 hm1 hm6 (by assumption))) kFr.keep
end

section
open PySem PySem.W PySem.Calls PyProof.Rows
set_option maxRecDepth 100000
set_option maxHeartbeats 2000000
theorem tie_call {w : World} {mean : ExcName → Option Value} {mg mb : Str → Option Value} {base : Heap} {dp un : Nat} {gd : Option (List Code)} {fr : List Env} {s : Shared}
    {Q E : Value → Shared → Prop} {i j : Int} {ti tj : Tok}
    (H : Here w mean mg mb base dp un gd fr s.heap) (hi : 0 ≤ i ∧ i < 6) (hj : 0 ≤ j ∧ j < 6)
    (ret : ∀ t h' tk', (∀ b o, s.heap.get? b = some o → h'.get? b = some o) → Q (.int (1 * 2 ^ (4 * i).toNat + 1 * 2 ^ (4 * j).toNat) t) { s with heap := h', toks := tk' }) :
    wpAny (model PR w) (AR dp un gd fr) (call (.ref 160) [.int i ti, .int j tj]) Q E s := by
  obtain ⟨X, T, B, hd, hu⟩ := H
  revert X; delta PR; k_fill; intro X
  k_with_none
  (k_with "storeName" => (dsimp only; walk_at "storeName"))
  (k_with "setItem ref int" => (dsimp only; walk_at "setItem ref int"))
  (k_with "newTuple" => (dsimp only; walk_at "newTuple"))
  (k_with "newList" => (dsimp only; walk_at "newList"))
  refine enter (binds := [(Str.ofString "i", .int i ti), (Str.ofString "j", .int j tj)]) (args := ⟨[.int i ti, .int j tj], []⟩) X T (by k_is) (by k_is) (by k_room) (BindsTo.of_eq rfl) (locs rfl) ?_ (by decide) rfl rfl rfl
  intro L h₁ tk₁ F N
  try dsimp only
  k_fold
  k_steps
  show Q (Value.int _ _) _
  exact ret _ _ _ (by assumption : Fr s.heap L _ _).keep
end

section
open PySem PySem.W PySem.Calls PyProof.Rows
set_option maxRecDepth 100000

noncomputable def tieI (i j : Int) : Int := 1 * 2 ^ (4 * i).toNat + 1 * 2 ^ (4 * j).toNat
noncomputable def numL (ps : List (Nat × Nat)) : Int := (ps.map fun p => tieI p.1 p.2).sum
noncomputable def tiedTo (g i j : Nat) : List (Nat × Nat) := (upL i j).filter fun p => edge g p.1 p.2
theorem num_0 {g : Nat} : (0 : Int) = numL (tiedTo g ([] : List Int).length 0) := rfl
theorem num_in {g : Nat} {num k : Int} {pre : List Int} (h : num = numL (tiedTo g pre.length 0)) (hk : k = 0 + (pre.length : Int)) : num = numL (tiedTo g k.toNat ([] : List Int).length) := by
  have e : k.toNat = pre.length := by omega
  rw [e]; exact h
theorem tied_next (g i : Nat) : tiedTo g (i + 1) 0 = tiedTo g i i := by rw [tiedTo, upL_next]; rfl
theorem num_out {g : Nat} {num k : Int} {pre : List Int} (h : num = numL (tiedTo g k.toNat (rangeKs 0 (k - 0).toNat).length)) (hk : k = 0 + (pre.length : Int)) : num = numL (tiedTo g (pre ++ [k]).length 0) := by
  rw [List.length_append, List.length_singleton, tied_next, h, rangeKs_length]
  congr 2 <;> omega
theorem num_tie {g : Nat} {ns : List Int} {num k j : Int} {pre : List Int} (hns : ns = rowsOf g) (h : num = numL (tiedTo g k.toNat pre.length)) (hj : j = 0 + (pre.length : Int)) (hjk : j < k) (hk : k < 6)
    (he : Builtin.bitAnd ((ns.getD k.toNat 0).fdiv (2 ^ j.toNat)) 1 ≠ 0) : num + (1 * 2 ^ (4 * k).toNat + 1 * 2 ^ (4 * j).toNat) = numL (tiedTo g k.toNat (pre ++ [j]).length) := by
  subst hns
  rw [rows_bit (by omega) (by omega) (by omega) hk] at he
  have e : edge g k.toNat pre.length = true := by
    have : j.toNat = pre.length := by omega
    rw [this] at he
    cases q : edge g k.toNat pre.length
    · rw [q] at he; exact absurd rfl he
    · rfl
  rw [List.length_append, List.length_singleton, tiedTo, upL_succ, List.filter_append]
  have e2 : (List.filter (fun p : Nat × Nat => edge g p.1 p.2) [(k.toNat, pre.length)]) = [(k.toNat, pre.length)] := by simp [e]
  rw [e2, numL, List.map_append, List.sum_append, h, numL, tiedTo]
  congr 1
  simp only [List.map_cons, List.map_nil, List.sum_cons, List.sum_nil, tieI]
  have h1 : ((k.toNat : Nat) : Int) = k := by omega
  have h2 : ((pre.length : Nat) : Int) = j := by omega
  rw [h1, h2]; omega
theorem num_no {g : Nat} {ns : List Int} {num k j : Int} {pre : List Int} (hns : ns = rowsOf g) (h : num = numL (tiedTo g k.toNat pre.length)) (hj : j = 0 + (pre.length : Int)) (hjk : j < k) (hk : k < 6)
    (he : Builtin.bitAnd ((ns.getD k.toNat 0).fdiv (2 ^ j.toNat)) 1 = 0) : num = numL (tiedTo g k.toNat (pre ++ [j]).length) := by
  subst hns
  rw [rows_bit (by omega) (by omega) (by omega) hk] at he
  have e : edge g k.toNat pre.length = false := by
    have : j.toNat = pre.length := by omega
    rw [this] at he
    cases q : edge g k.toNat pre.length
    · rfl
    · rw [q] at he; exact absurd he (by decide)
  rw [List.length_append, List.length_singleton, tiedTo, upL_succ, List.filter_append]
  have e2 : (List.filter (fun p : Nat × Nat => edge g p.1 p.2) [(k.toNat, pre.length)]) = [] := by simp [e]
  rw [e2, List.append_nil]
  exact h
theorem num_end {g : Nat} {num : Int} (h : num = numL (tiedTo g (rangeKs 0 (6 - 0 : Int).toNat).length 0)) : num = numL (tiedTo g 6 0) := h
theorem untied_at {w : World} {mean : ExcName → Option Value} {mg mb : Str → Option Value} {base : Heap} {dp un : Nat} {gd : Option (List Code)} {fr : List Env} {s₀ s : Shared} {env : Env} {m : Str → Option Value}
    {Q E : Value → Shared → Prop} {l : Addr} {vs : List Value} {g : Nat} {news : List (Addr × Obj)}
    (H : Here w mean mg mb base dp un gd fr s₀.heap) (hd : dp + 21 < recursionLimit) (hu : un + 403 < cLine) (F : Fr s₀.heap env.locals s.heap m) (N : News s₀.heap env.locals s.heap news) (hk : env.scope.kind = .function) (hf : env.frame = some env.locals)
    (hl : s.heap.IsList l vs.toArray) (hi : IntsAre vs (rowsOf g))
    (ret : ∀ D vs' n h' tk' tl, Fr s₀.heap env.locals h' m → News s₀.heap env.locals h' ((D, listOf (List.toArray vs') n) :: (news ++ tl)) → (∀ p ∈ news, p.1 ≠ D) → OffAll (D :: news.map (·.1)) tl → PairsIn tl vs' (untiedOf g) → Q (.ref D) { s with heap := h', toks := tk' }) :
    wpAny (model PR w) ((AR dp un gd fr).deeper env) (call (.ref 153) [.ref l]) Q E s := by
  refine untied_call (H.push hd hu F hk hf) hl hi fun D vs' n h' tk' tl kp no off pin => ?_
  have hoff := no.off N
  have hN := no.news F N kp
  refine ret D vs' n h' tk' tl (F.keeps kp) (fun p hp => hN p ?_) (fun p hp => hoff p hp _ (List.Mem.head _)) ?_ pin
  · rcases List.mem_cons.mp hp with rfl | hp
    · exact List.Mem.head _
    · rcases List.mem_append.mp hp with hp | hp
      · exact List.mem_append.mpr (.inr hp)
      · exact List.mem_append.mpr (.inl (List.Mem.tail _ hp))
  · intro p hp hb
    rcases List.mem_cons.mp hb with hb | hb
    · exact off p hp (List.mem_singleton.mpr hb)
    · obtain ⟨q, hq, e⟩ := List.mem_map.mp hb
      exact hoff q hq p (List.Mem.tail _ hp) e

theorem hexF_len : ∀ k m : Nat, (hexF k m).length ≤ k
  | 0, _ => Nat.le_refl _
  | k + 1, m => by
    unfold hexF
    split
    · simp
    · have := hexF_len k (m / 16); simp; omega
theorem int2ap_at {w : World} {mean : ExcName → Option Value} {mg mb : Str → Option Value} {base : Heap} {dp un : Nat} {gd : Option (List Code)} {fr : List Env} {s₀ s : Shared} {env : Env} {m : Str → Option Value}
    {Q E : Value → Shared → Prop} {n : Nat} {t : Tok} {news : List (Addr × Obj)}
    (H : Here w mean mg mb base dp un gd fr s₀.heap) (hd : dp + 21 < recursionLimit) (hu : un + 403 < cLine) (F : Fr s₀.heap env.locals s.heap m) (N : News s₀.heap env.locals s.heap news) (hk : env.scope.kind = .function) (hf : env.frame = some env.locals)
    (hn : n < 16 ^ 6)
    (ret : ∀ (b : Array UInt8) t' h' tk' ks, KBw.bInts b = ks → ks = hexF 6 n → ks.length ≤ 6 → Fr s₀.heap env.locals h' m → News s₀.heap env.locals h' news → Q (.bytes b t') { s with heap := h', toks := tk' }) :
    wpAny (model PR w) ((AR dp un gd fr).deeper env) (call (.ref 70) [.int (-(n : Int)) t]) Q E s :=
  int2ap_call (H.push hd hu F hk hf) hn fun b t' h' tk' hb kp => ret b t' h' tk' _ hb rfl (hexF_len 6 n) (F.keeps kp) (N.grown kp)
theorem indexof_at {w : World} {mean : ExcName → Option Value} {mg mb : Str → Option Value} {base : Heap} {dp un : Nat} {gd : Option (List Code)} {fr : List Env} {s₀ s : Shared} {env : Env} {m : Str → Option Value}
    {Q E : Value → Shared → Prop} {l : Addr} {vs : List Value} {ns : List Int} {n : Int} {t : Tok} {ln : Nat} {news : List (Addr × Obj)}
    (H : Here w mean mg mb base dp un gd fr s₀.heap) (hd : dp + 21 < recursionLimit) (hu : un + 403 < cLine) (F : Fr s₀.heap env.locals s.heap m) (N : News s₀.heap env.locals s.heap news) (hk : env.scope.kind = .function) (hf : env.frame = some env.locals)
    (hm : (l, listOf (List.toArray vs) ln) ∈ news) (hi : IntsAre vs ns) (hn : n ∈ ns) (ht0 : t ≠ 0) (htv : ∀ x tx, Value.int x tx ∈ vs → tx ≠ 0 ∧ tx ≠ t) (hsm : smallInt n = true)
    (ret : ∀ (k : Nat) t h' tk', ns[k]? = some n → (∀ k', k' < k → ns[k']? ≠ some n) → Fr s₀.heap env.locals h' m → News s₀.heap env.locals h' news → Q (.int (k : Int) t) { s with heap := h', toks := tk' }) :
    wpAny (model PR w) ((AR dp un gd fr).deeper env) (call (.ref 63) [.ref l, .int n t]) Q E s :=
  indexof_call (H.push hd hu F hk hf) ⟨_, (N _ hm).1, rfl, _, rfl⟩ hi hn ht0 htv hsm fun k t' h' tk' h1 h2 kp => ret k t' h' tk' h1 h2 (F.keeps kp) (N.grown kp)
theorem ws_at {w : World} {mean : ExcName → Option Value} {mg mb : Str → Option Value} {base : Heap} {dp un : Nat} {gd : Option (List Code)} {fr : List Env} {s₀ s : Shared} {env : Env} {m : Str → Option Value}
    {Q E : Value → Shared → Prop} {ws : Str} {t : Tok} {news : List (Addr × Obj)}
    (H : Here w mean mg mb base dp un gd fr s₀.heap) (hd : dp + 21 < recursionLimit) (hu : un + 403 < cLine) (F : Fr s₀.heap env.locals s.heap m) (N : News s₀.heap env.locals s.heap news) (hk : env.scope.kind = .function) (hf : env.frame = some env.locals)
    (hw : ∀ c ∈ ws.cps.toList, c = 32 ∨ c = 9) (hz : ws.cps.size ≤ 200)
    (ret : ∀ (x dx T Tc : Addr) (n nt b : Int) (count : List Int) (tn tt tb : Tok) (vs : List Value) (z : Bool) (k1 k2 k3 k4 k5 : Tok) h' tk', wsFold (KStt.codes ws) = (n, nt, b, count) → IntsAre vs count → count.length ≤ 200 → 0 ≤ b → b ≤ 200 →
      Fr s₀.heap env.locals h' m → News s₀.heap env.locals h' (wsLed w ws t n nt b tn tt tb x dx T Tc vs z k1 k2 k3 k4 k5 ++ news) → Q (.ref x) { s with heap := h', toks := tk' }) :
    wpAny (model PR w) ((AR dp un gd fr).deeper env) (call (.ref 132) [.str ws t]) Q E s :=
  init_call (H.push hd hu F hk hf) hw hz fun x dx T Tc n nt b count tn tt tb vs z k1 k2 k3 k4 k5 h' tk' h1 h2 h3 h4 h5 kp no =>
    ret x dx T Tc n nt b count tn tt tb vs z k1 k2 k3 k4 k5 h' tk' h1 h2 h3 h4 h5 (F.keeps kp) (no.news F N kp)

/-- a while's turn's end -/
noncomputable def WPost (h₀ : Heap) (L : Addr) (s : Shared) (J : Nat → (Str → Option Value) → List (Addr × Obj) → Prop) (n : Nat) (Q : Flow → Shared → Prop) (f : Flow) (s₃ : Shared) : Prop :=
  match f with
  | .ret v => Q (.ret v) s₃
  | .brk => Q .next s₃
  | _ => ∃ h' tk m₂ news₂ n', s₃ = { s with heap := h', toks := tk } ∧ Fr h₀ L h' m₂ ∧ News h₀ L h' news₂ ∧ n' < n ∧ J n' m₂ news₂
theorem While_ret {prog : Program} {w : World} {A : Around} {E : Value → Shared → Prop} {Q : Flow → Shared → Prop} {s : Shared} {env : Env} {h₀ : Heap} {L : Addr} {test : Expr} {body : List Stmt} {pos : Pos} {m : Str → Option Value} {news : List (Addr × Obj)} (J : Nat → (Str → Option Value) → List (Addr × Obj) → Prop) {n₀ : Nat}
    (F : Fr h₀ L s.heap m) (N : News h₀ L s.heap news) (hJ : J n₀ m news)
    (turn : ∀ n m₁ news₁ h₁ tk₁, Fr h₀ L h₁ m₁ → News h₀ L h₁ news₁ → J n m₁ news₁ →
      wpAny (model prog w) A (isTrue test env (eval test env)) (fun b s₂ =>
        if b = true then wpAny (model prog w) A (execs body env) (WPost h₀ L s J n Q) (fun _ _ => False) s₂ else Q .next s₂) (fun _ _ => False) { s with heap := h₁, toks := tk₁ }) :
    wpAny (model prog w) A (exec (.While test body [] pos) env) Q E s := by
  refine wpAny_noRaise (wpAny_While (codeAny_whileLoop (fun n s' => ∃ h₁ tk₁ m₁ news₁, s' = { s with heap := h₁, toks := tk₁ } ∧ Fr h₀ L h₁ m₁ ∧ News h₀ L h₁ news₁ ∧ J n m₁ news₁) ?_ n₀ ⟨s.heap, s.toks, m, news, rfl, F, N, hJ⟩))
  rintro n s' ⟨h₁, tk₁, m₁, news₁, rfl, F₁, N₁, J₁⟩
  refine wpAny_mono (turn n m₁ news₁ h₁ tk₁ F₁ N₁ J₁) (fun b s₂ h₂ => ?_) fun _ _ e => e.elim
  cases b with
  | false =>
    simp only [Bool.false_eq_true, if_false] at h₂ ⊢
    exact wpAny_execs_nil h₂
  | true =>
    simp only [if_true] at h₂ ⊢
    refine wpAny_mono h₂ (fun f s₃ h₃ => ?_) fun _ _ e => e.elim
    have fin : (∃ h' tk m₂ news₂ n', s₃ = { s with heap := h', toks := tk } ∧ Fr h₀ L h' m₂ ∧ News h₀ L h' news₂ ∧ n' < n ∧ J n' m₂ news₂) → ∃ k, k < n ∧ ∃ h₁ tk₁ m₁ news₁, s₃ = { s with heap := h₁, toks := tk₁ } ∧ Fr h₀ L h₁ m₁ ∧ News h₀ L h₁ news₁ ∧ J k m₁ news₁ := by
      rintro ⟨h', tk, m₂, news₂, n', rfl, F₂, N₂, hn, J₂⟩
      exact ⟨n', hn, h', tk, m₂, news₂, rfl, F₂, N₂, J₂⟩
    cases f with
    | ret v => exact h₃
    | brk => exact h₃
    | next => exact fin h₃
    | cont => exact fin h₃
theorem kst_all0 {h₀ h : Heap} {L : Addr} {ps : List (Str × Value)} {m₁ : Str → Option Value} (h1 : ∀ p ∈ ps, m₁ p.1 = some p.2) (F : Fr h₀ L h m₁) : Fr h₀ L h (kstB m₁ ps) := by
  have e : m₁ = kstB m₁ ps := by
    funext z
    exact (kstB_eq h1 fun _ => rfl).symm
  rw [e] at F
  exact F
end

section
open PySem
noncomputable def numN (g : Nat) : Nat := deg g 0 + 16 * deg g 1 + 256 * deg g 2 + 4096 * deg g 3 + 65536 * deg g 4 + 1048576 * deg g 5
theorem numN_lt (g : Nat) : numN g < 16 ^ 6 := by
  have := deg_le6 g 0; have := deg_le6 g 1; have := deg_le6 g 2; have := deg_le6 g 3; have := deg_le6 g 4; have := deg_le6 g 5
  unfold numN; omega
noncomputable def wordL (g : Nat) : List Int := [(65 + deg g 5 : Int), 65 + deg g 4, 65 + deg g 3, 65 + deg g 2, 65 + deg g 1, 65 + deg g 0]
noncomputable def sumOf (g : Nat) (p : Nat × Nat) : Nat := deg g p.1 + deg g p.2
noncomputable def sumsL (g : Nat) (ps : List (Nat × Nat)) : List Int := ps.map fun p => (sumOf g p : Int)
/-- the first of the most ties, six or more -/
noncomputable def Best (g k : Nat) (p : Nat × Nat) : Prop := (untiedOf g)[k]? = some p ∧ 6 ≤ sumOf g p ∧ (∀ q ∈ untiedOf g, sumOf g q ≤ sumOf g p) ∧ ∀ k', k' < k → ∀ q, (untiedOf g)[k']? = some q → sumOf g q < sumOf g p
inductive Trail (g : Nat) : List (Nat × Nat) → Nat → Prop
  | nil : Trail g [] g
  | snoc {tr : List (Nat × Nat)} {g' k : Nat} {p : Nat × Nat} : Trail g tr g' → Best g' k p → Trail g (tr ++ [p]) (addE g' p.1 p.2)
theorem Best.lt {g k : Nat} {p : Nat × Nat} (h : Best g k p) : k < 1000 := by
  have h1 := (List.getElem?_eq_some_iff.mp h.1).1
  have h2 : (untiedOf g).length ≤ 15 := List.length_filter_le _ _
  omega
theorem Best.bds {g k : Nat} {p : Nat × Nat} (h : Best g k p) : p.1 < 6 ∧ p.2 < 6 := by
  have := untied_lt (List.mem_of_getElem? h.1)
  omega
theorem Best.step {g k : Nat} {p : Nat × Nat} (h : Best g k p) : Step g p.1 p.2 := by
  have hm := List.mem_of_getElem? h.1
  have hu := untied_lt hm
  exact ⟨hu.1, hu.2.1, hu.2.2, h.2.1⟩
theorem Trail.reach {g g' : Nat} {tr : List (Nat × Nat)} (h : Trail g tr g') : Reach g g' := by
  induction h with
  | nil => exact .refl
  | snoc _ hb ih => exact .step ih hb.step
theorem deg_addE' {g i j a : Nat} (h : Step g i j) (ha : a < 6) : deg (addE g i j) a = deg g a + (if a = i ∨ a = j then 1 else 0) :=
  deg_addE h.2.1 (by have := h.1; have := h.2.1; omega) ha (by have := h.1; omega) h.2.2.1
theorem numN_step {g i j : Nat} (h : Step g i j) : numN (addE g i j) = numN g + 16 ^ i + 16 ^ j := by
  unfold numN
  rw [deg_addE' h (by decide), deg_addE' h (by decide), deg_addE' h (by decide), deg_addE' h (by decide), deg_addE' h (by decide), deg_addE' h (by decide)]
  exact linP (at_pow ⟨i, h.2.1⟩ ⟨j, Nat.lt_trans h.1 h.2.1⟩ h.1)
theorem erase_filter : ∀ {l : List (Nat × Nat)} {k : Nat}, l.Nodup → (hk : k < l.length) → l.eraseIdx k = l.filter fun q => q != l[k]
  | [], k, _, hk => by simp at hk
  | a :: r, 0, hn, _ => by
    have hn' := List.nodup_cons.mp hn
    simp only [List.eraseIdx_cons_zero, List.getElem_cons_zero]
    rw [List.filter_cons_of_neg (by simp)]
    refine (List.filter_eq_self.mpr fun q hq => ?_).symm
    simp only [bne_iff_ne, ne_eq]
    rintro rfl
    exact hn'.1 hq
  | a :: r, k + 1, hn, hk => by
    have hn' := List.nodup_cons.mp hn
    simp only [List.eraseIdx_cons_succ, List.getElem_cons_succ]
    have hk' : k < r.length := by simpa using hk
    rw [List.filter_cons_of_pos, erase_filter hn'.2 hk']
    simp only [bne_iff_ne, ne_eq]
    intro e
    exact hn'.1 (e ▸ List.getElem_mem hk')
theorem untied_erase {g k : Nat} {p : Nat × Nat} (h : (untiedOf g)[k]? = some p) : (untiedOf g).eraseIdx k = untiedOf (addE g p.1 p.2) := by
  have hu := untied_lt (List.mem_of_getElem? h)
  have hk := (List.getElem?_eq_some_iff.mp h).1
  have he := (List.getElem?_eq_some_iff.mp h).2
  have hj : p.2 < 6 := by omega
  have hne : p.1 ≠ p.2 := by omega
  have key : untiedOf (addE g p.1 p.2) = (untiedOf g).filter fun q => q != p := by
    unfold untiedOf
    rw [List.filter_filter]
    refine List.filter_congr fun q hq => ?_
    have hq' := allPairs_lt q hq
    rw [edge_addE' hu.2.1 hj hq'.2 (by omega) hne]
    unfold hit
    rw [Bool.eq_iff_iff]
    simp only [Bool.not_or, Bool.and_eq_true, Bool.not_eq_true', bne_iff_ne, ne_eq, Bool.or_eq_false_iff, Bool.and_eq_false_iff, beq_eq_false_iff_ne]
    constructor
    · rintro ⟨h1, h2, h3⟩
      refine ⟨?_, h1⟩
      rintro rfl
      rcases h2 with h2 | h2 <;> exact h2 rfl
    · rintro ⟨h1, h2⟩
      refine ⟨h2, ?_, ?_⟩
      · by_cases e1 : q.1 = p.1
        · right; intro e2; exact h1 (Prod.ext e1 e2)
        · left; exact e1
      · by_cases e1 : q.1 = p.2
        · right; intro e2; omega
        · left; exact e1
  rw [key]
  rw [← he]
  exact erase_filter (untied_nodup g) hk
end

section
open PySem PySem.W PySem.Calls PyProof.Rows
set_option maxRecDepth 100000
theorem edgeN (g : Nat) : numL (tiedTo g 6 0) = ((allPairs.map fun p => if edge g p.1 p.2 then tieI p.1 p.2 else 0)).sum := by
  unfold tiedTo numL
  rw [show upL 6 0 = allPairs by decide]
  generalize allPairs = l
  induction l with
  | nil => rfl
  | cons a r ih =>
    rw [List.filter_cons, List.map_cons, List.sum_cons]
    cases e : edge g a.1 a.2
    · simpa using ih
    · simp [ih]
theorem numL_all (g : Nat) : numL (tiedTo g 6 0) = (numN g : Int) := by
  rw [edgeN]
  have hs : ∀ i : Nat, edge g i i = false := fun i => by simp [edge]
  have hb : ∀ b : Bool, ∀ x : Int, (if b = true then x else 0) = (b.toNat : Int) * x := fun b x => by cases b <;> simp
  have hc := fun (i j : Nat) (hi : i < 6) (hj : j < 6) => edge_comm (g := g) hi hj
  simp only [allPairs, List.map_cons, List.map_nil, List.sum_cons, List.sum_nil, hb, numN, deg]
  rw [hs 0, hs 1, hs 2, hs 3, hs 4, hs 5, hc 0 1 (by decide) (by decide), hc 0 2 (by decide) (by decide), hc 0 3 (by decide) (by decide), hc 0 4 (by decide) (by decide), hc 0 5 (by decide) (by decide), hc 1 2 (by decide) (by decide), hc 1 3 (by decide) (by decide), hc 1 4 (by decide) (by decide), hc 1 5 (by decide) (by decide),
    hc 2 3 (by decide) (by decide), hc 2 4 (by decide) (by decide), hc 2 5 (by decide) (by decide), hc 3 4 (by decide) (by decide), hc 3 5 (by decide) (by decide), hc 4 5 (by decide) (by decide)]
  simp only [show tieI (((1) : Nat) : Int) (((0) : Nat) : Int) = 17 from by decide, show tieI (((2) : Nat) : Int) (((0) : Nat) : Int) = 257 from by decide, show tieI (((2) : Nat) : Int) (((1) : Nat) : Int) = 272 from by decide, show tieI (((3) : Nat) : Int) (((0) : Nat) : Int) = 4097 from by decide, show tieI (((3) : Nat) : Int) (((1) : Nat) : Int) = 4112 from by decide, show tieI (((3) : Nat) : Int) (((2) : Nat) : Int) = 4352 from by decide, show tieI (((4) : Nat) : Int) (((0) : Nat) : Int) = 65537 from by decide, show tieI (((4) : Nat) : Int) (((1) : Nat) : Int) = 65552 from by decide, show tieI (((4) : Nat) : Int) (((2) : Nat) : Int) = 65792 from by decide, show tieI (((4) : Nat) : Int) (((3) : Nat) : Int) = 69632 from by decide, show tieI (((5) : Nat) : Int) (((0) : Nat) : Int) = 1048577 from by decide, show tieI (((5) : Nat) : Int) (((1) : Nat) : Int) = 1048592 from by decide, show tieI (((5) : Nat) : Int) (((2) : Nat) : Int) = 1048832 from by decide, show tieI (((5) : Nat) : Int) (((3) : Nat) : Int) = 1052672 from by decide, show tieI (((5) : Nat) : Int) (((4) : Nat) : Int) = 1114112 from by decide]
  simp only [Bool.toNat_false]
  omega
noncomputable def digs : Nat → Nat → List Int
  | 0, _ => []
  | k + 1, m => digs k (m / 16) ++ [((65 + m % 16 : Nat) : Int)]
theorem hex_digs : ∀ k m : Nat, m < 16 ^ k → List.replicate (k - (hexF k m).length) (65 : Int) ++ hexF k m = digs k m
  | 0, _, _ => rfl
  | k + 1, m, h => by
    have hk : m / 16 < 16 ^ k := by rw [Nat.pow_succ] at h; exact Nat.div_lt_of_lt_mul (by omega)
    have ih := hex_digs k (m / 16) hk
    unfold hexF digs
    by_cases hm : m = 0
    · subst hm
      rw [if_pos rfl]
      have e : hexF k (0 / 16) = [] := by cases k <;> rfl
      rw [e] at ih
      simp only [List.length_nil, Nat.sub_zero, List.append_nil] at ih ⊢
      rw [← ih]
      show List.replicate (k + 1) (65 : Int) = List.replicate k 65 ++ [65]
      rw [List.replicate_succ']
    · rw [if_neg hm]
      rw [List.length_append, List.length_singleton, ← List.append_assoc, ← ih]
      have := hexF_len k (m / 16)
      rw [show k + 1 - ((hexF k (m / 16)).length + 1) = k - (hexF k (m / 16)).length by omega]
theorem digs_cons {k d n : Nat} (h : d < 16) : digs (k + 1) (d + 16 * n) = digs k n ++ [((65 + d : Nat) : Int)] := by
  rw [digs, show (d + 16 * n) / 16 = n by omega, show (d + 16 * n) % 16 = d by omega]
theorem numN_nest (g : Nat) : numN g = deg g 0 + 16 * (deg g 1 + 16 * (deg g 2 + 16 * (deg g 3 + 16 * (deg g 4 + 16 * (deg g 5 + 16 * 0))))) := by
  unfold numN; omega
theorem digs_num (g : Nat) : digs 6 (numN g) = wordL g := by
  have h := fun i => Nat.lt_of_le_of_lt (deg_le6 g i) (by decide : 6 < 16)
  rw [numN_nest, digs_cons (h 0), digs_cons (h 1), digs_cons (h 2), digs_cons (h 3), digs_cons (h 4), digs_cons (h 5)]
  rfl
theorem word_of {g : Nat} {ks : List Int} (h : ks = hexF 6 (numN g)) : (List.replicate (6 - (ks.length : Int)).toNat [(65 : Int)]).flatten ++ ks = wordL g := by
  have hl := hexF_len 6 (numN g)
  rw [List.flatten_replicate_singleton, h, show (6 - ((hexF 6 (numN g)).length : Int)).toNat = 6 - (hexF 6 (numN g)).length by omega, hex_digs 6 _ (numN_lt g), digs_num]
theorem word_add {prog : Program} {w : World} {A : Around} {E : Value → Shared → Prop} {s : Shared} {Q : Value → Shared → Prop} {g : Nat} {b : Array UInt8} {ks : List Int} {t u : Tok} (hb : KBw.bInts b = ks) (he : ks = hexF 6 (numN g)) (hl : ks.length ≤ 6)
    (h : ∀ t' k v, KBw.bInts v = wordL g → Q (.bytes v t') { s with toks := k }) :
    wpAny (model prog w) A (binaryOp .Add (.bytes (List.replicate (6 - (ks.length : Int)).toNat [(65 : UInt8)]).flatten.toArray t) (.bytes b u)) Q E s := by
  have e : KBw.bInts (List.replicate (6 - (ks.length : Int)).toNat [(65 : UInt8)]).flatten.toArray = (List.replicate (6 - (ks.length : Int)).toNat [(65 : Int)]).flatten := by
    rw [KBw.ints_list, List.flatten_replicate_singleton, List.flatten_replicate_singleton, List.map_replicate]
    rfl
  refine KBa.add_K e hb ?_ fun t' k e' => h t' k _ (e'.trans (word_of he))
  rw [List.flatten_replicate_singleton, List.length_replicate]
  omega
theorem word_get (g : Nat) {a : Nat} (ha : a < 6) : (wordL g).getD (5 - (a : Int)).toNat 0 = 65 + (deg g a : Int) := by
  have : a = 0 ∨ a = 1 ∨ a = 2 ∨ a = 3 ∨ a = 4 ∨ a = 5 := by omega
  rcases this with rfl | rfl | rfl | rfl | rfl | rfl <;> rfl
theorem word_item {prog : Program} {w : World} {A : Around} {E : Value → Shared → Prop} {s : Shared} {Q : Value → Shared → Prop} {g a : Nat} {v : Array UInt8} {t u : Tok} {value slice : PySem.Expr} (hv : KBw.bInts v = wordL g) (ha : a < 6)
    (h : ∀ t' k, s.toks ≤ k → Q (.int (65 + (deg g a : Int)) t') { s with toks := k })
    (hs : subscripted slice false (.bytes v t) (.int (5 - (a : Int)) u) = operate [.bytes v t, .int (5 - (a : Int)) u] (getItem (.bytes v t) (.int (5 - (a : Int)) u)) := by with_unfolding_all rfl)
    (ht : ∀ r, letTemporaryGo value (.bytes v t) r = pure () := by intro _; with_unfolding_all rfl) : wpAny (model prog w) A (subscriptTail value slice (.bytes v t) (.int (5 - (a : Int)) u)) Q E s := by
  refine wpAny_with_toks (Nat.le_refl _) (KBw.item_K hv (by show 6 ≤ _; decide) (by omega) (by show _ < ((6 : Nat) : Int); omega) (fun t' k _ _ hle => ?_) hs ht)
  rw [word_get g ha]
  exact h t' k hle
end

section
open PySem PySem.W PySem.Calls PyProof.Rows
set_option maxRecDepth 100000
theorem codes_app (x y : Str) : KStt.codes (x ++ y) = KStt.codes x ++ KStt.codes y := by
  simp [KStt.codes, Str.cps_append]
theorem rep_fold (c : Array Nat) : ∀ (k : Nat) (acc : Array Nat), ((List.replicate k c).foldl (· ++ ·) acc).toList = acc.toList ++ (List.replicate k c.toList).flatten
  | 0, acc => by simp
  | k + 1, acc => by
    rw [List.replicate_succ, List.foldl_cons, rep_fold c k]
    simp [List.replicate_succ]
theorem codes_sp {n : Int} (_h : 0 ≤ n) : KStt.codes (Txt.mul (Str.ofString " ") n) = List.replicate n.toNat 32 := by
  have e : (Str.ofString " ").cps = #[32] := by decide +kernel
  have e1 : ((Str.ofString " ").length == 0) = false := by decide +kernel
  unfold Txt.mul
  by_cases h0 : n < 1
  · rw [if_pos h0]
    have : n.toNat = 0 := by omega
    rw [this]; rfl
  · rw [if_neg h0, e1, Bool.or_false]
    by_cases h1 : n = 1
    · subst h1
      simp [KStt.codes, e]
    · have : (n == 1) = false := by simpa using h1
      rw [this]
      simp only [Bool.false_eq_true, if_false]
      unfold KStt.codes
      rw [e, rep_fold]
      simp [List.flatten_replicate_singleton]
noncomputable abbrev lineOf (n : Int) : Str := Txt.mul (Str.ofString " ") n ++ Str.ofString "\t"
theorem codes_line {n : Int} (h : 0 ≤ n) : KStt.codes (lineOf n) = List.replicate n.toNat 32 ++ [9] := by
  rw [codes_app, codes_sp h]
  congr 1
theorem codes_join1 : ∀ ys : List Str, KStt.codes (Str.join (Str.ofString "") ys) = (ys.map KStt.codes).flatten
  | [] => rfl
  | [x] => by
    show KStt.codes x = _
    simp
  | x :: y :: r => by
    show KStt.codes (x ++ Str.ofString "" ++ Str.join (Str.ofString "") (y :: r)) = _
    rw [codes_app, codes_app, codes_join1 (y :: r)]
    have : KStt.codes (Str.ofString "") = [] := by decide +kernel
    rw [this, List.append_nil, List.map_cons (a := x), List.flatten_cons]
theorem codes_join0 (ys : List Str) : KStt.codes (Txt.join (Str.ofString "") ys) = (ys.map KStt.codes).flatten := by
  unfold Txt.join
  rw [StrLaws.glued_eq_join, codes_join1]
noncomputable def linesL (ns : List Int) : List Int := (ns.map fun n => List.replicate n.toNat 32 ++ [9]).flatten
theorem codes_lines {ns : List Int} (h : ∀ n ∈ ns, 0 ≤ n) : KStt.codes (Txt.join (Str.ofString "") (ns.map lineOf)) = linesL ns := by
  rw [codes_join0, linesL, List.map_map]
  congr 1
  exact List.map_congr_left fun n hn => codes_line (h n hn)
theorem lines_mem {ns : List Int} : ∀ c ∈ linesL ns, c = 32 ∨ c = 9 := by
  intro c hc
  unfold linesL at hc
  obtain ⟨l, hl, hc⟩ := List.mem_flatten.mp hc
  obtain ⟨n, _, rfl⟩ := List.mem_map.mp hl
  rcases List.mem_append.mp hc with hc | hc
  · exact .inl (List.eq_of_mem_replicate hc)
  · exact .inr (List.mem_singleton.mp hc)
theorem lines_len {ns : List Int} (h : ∀ n ∈ ns, n ≤ 12) : (linesL ns).length ≤ 13 * ns.length := by
  induction ns with
  | nil => exact Nat.le_refl _
  | cons a r ih =>
    have h1 := ih fun n hn => h n (List.mem_cons_of_mem _ hn)
    have h2 := h a (List.Mem.head _)
    unfold linesL at h1 ⊢
    rw [List.map_cons, List.flatten_cons, List.length_append, List.length_append, List.length_replicate, List.length_cons]
    simp only [List.length_cons, List.length_nil]
    omega

-- what the class reckons of the text
noncomputable def cstep (cnt : List Int) (s : Int) : List Int :=
  let c := if cnt.length ≤ s.toNat then cnt ++ List.replicate (s.toNat - cnt.length + 1) 0 else cnt
  c.set s.toNat (c.getD s.toNat 0 + 1)
theorem fold_sp : ∀ (k : Nat) (st : Int × Int × Int × List Int), (List.replicate k (32 : Int)).foldl wsStep st = (st.1 + k, st.2.1, st.2.2.1 + k, st.2.2.2)
  | 0, st => by simp
  | k + 1, st => by
    rw [List.replicate_succ, List.foldl_cons, fold_sp k]
    unfold wsStep
    simp only [if_true]
    refine Prod.ext ?_ (Prod.ext rfl (Prod.ext ?_ rfl)) <;> simp <;> omega
theorem fold_line {n : Int} (h : 0 ≤ n) (N T : Int) (cnt : List Int) : (List.replicate n.toNat (32 : Int) ++ [9]).foldl wsStep (N, T, 0, cnt) = (N + n + 1, T + 1, 0, cstep cnt n) := by
  rw [List.foldl_append, fold_sp]
  simp only [List.foldl_cons, List.foldl_nil]
  have e : (0 + (n.toNat : Int)).toNat = n.toNat := by omega
  unfold wsStep
  rw [if_neg (by decide)]
  simp only [e]
  unfold cstep
  refine Prod.ext ?_ rfl
  simp; omega
theorem fold_lines : ∀ (ns : List Int), (∀ n ∈ ns, 0 ≤ n) → ∀ (N T : Int) (cnt : List Int), ∃ N', (linesL ns).foldl wsStep (N, T, 0, cnt) = (N', T + ns.length, 0, ns.foldl cstep cnt)
  | [], _, N, T, cnt => ⟨N, by simp [linesL]⟩
  | a :: r, h, N, T, cnt => by
    have ih := fold_lines r (fun n hn => h n (List.mem_cons_of_mem _ hn)) (N + a + 1) (T + 1) (cstep cnt a)
    obtain ⟨N', e⟩ := ih
    refine ⟨N', ?_⟩
    unfold linesL at e ⊢
    rw [List.map_cons, List.flatten_cons, List.foldl_append, fold_line (h a (List.Mem.head _)), e, List.foldl_cons]
    refine Prod.ext rfl (Prod.ext ?_ rfl)
    simp; omega
theorem ws_fold {ns : List Int} (h : ∀ n ∈ ns, 0 ≤ n) (k : Nat) : ∃ N', wsFold (linesL ns ++ List.replicate k 32) = (N', (ns.length : Int), (k : Int), ns.foldl cstep []) := by
  obtain ⟨N', e⟩ := fold_lines ns h 0 0 []
  refine ⟨N' + k, ?_⟩
  unfold wsFold
  rw [List.foldl_append, e, fold_sp]
  simp
/-- what the counts are -/
structure CInv (ns C : List Int) : Prop where
  lt : ∀ s ∈ ns, s.toNat < C.length
  top : C ≠ [] → ∃ s ∈ ns, s.toNat + 1 = C.length
  bnd : ∀ y ∈ C, 0 ≤ y ∧ y ≤ ns.length
  sum : (C.drop 6).sum = ((ns.filter fun s => decide (6 ≤ s)).length : Int)
theorem sum_set : ∀ (l : List Int) (k : Nat) (v : Int), k < l.length → (l.set k v).sum = l.sum - l.getD k 0 + v
  | [], k, v, h => by simp at h
  | a :: r, 0, v, _ => by simp; omega
  | a :: r, k + 1, v, h => by
    have := sum_set r k v (by simpa using h)
    simp only [List.set_cons_succ, List.sum_cons, List.getD_cons_succ]
    omega
theorem sum_zero (k : Nat) : (List.replicate k (0 : Int)).sum = 0 := by
  induction k with
  | zero => rfl
  | succ k ih => rw [List.replicate_succ, List.sum_cons, ih]; rfl
theorem CInv.grow {ns C : List Int} (h : CInv ns C) {k : Nat} : (∀ y ∈ C ++ List.replicate k 0, 0 ≤ y ∧ y ≤ (ns.length : Int)) ∧ ((C ++ List.replicate k 0).drop 6).sum = (C.drop 6).sum := by
  refine ⟨fun y hy => ?_, ?_⟩
  · rcases List.mem_append.mp hy with hy | hy
    · exact h.bnd y hy
    · rw [List.eq_of_mem_replicate hy]; exact ⟨Int.le_refl _, by omega⟩
  · rw [List.drop_append, List.sum_append, List.drop_replicate, sum_zero]; omega
theorem CInv.put {ns c : List Int} {s : Int} (h0 : 0 ≤ s) (hs : s.toNat < c.length) (hlt : ∀ s ∈ ns, s.toNat < c.length) (htop : s.toNat + 1 = c.length ∨ ∃ s ∈ ns, s.toNat + 1 = c.length) (hb : ∀ y ∈ c, 0 ≤ y ∧ y ≤ (ns.length : Int)) (hsum : (c.drop 6).sum = ((ns.filter fun s => decide (6 ≤ s)).length : Int)) :
    CInv (ns ++ [s]) (c.set s.toNat (c.getD s.toNat 0 + 1)) := by
  have hg : c.getD s.toNat 0 = c[s.toNat] := by simp [hs]
  have hgb := hb _ (List.getElem_mem hs)
  refine ⟨fun x hx => ?_, fun _ => ?_, fun y hy => ?_, ?_⟩
  · rw [List.length_set]
    rcases List.mem_append.mp hx with hx | hx
    · exact hlt x hx
    · rw [List.mem_singleton.mp hx]; exact hs
  · rw [List.length_set]
    rcases htop with h | ⟨x, hx, e⟩
    · exact ⟨s, by simp, h⟩
    · exact ⟨x, by simp [hx], e⟩
  · rw [List.length_append, List.length_singleton]
    rcases List.mem_or_eq_of_mem_set hy with hy | hy
    · have := hb y hy; omega
    · rw [hy, hg]; omega
  · rw [List.filter_append, List.length_append]
    by_cases h6 : 6 ≤ s
    · have e1 : ([s].filter fun s => decide (6 ≤ s)) = [s] := by simp [h6]
      have l1 : ¬ s.toNat < 6 := by omega
      have l2 : s.toNat - 6 < (c.drop 6).length := by rw [List.length_drop]; omega
      rw [e1, List.drop_set, if_neg l1, sum_set _ _ _ l2, hsum]
      have e2 : (c.drop 6).getD (s.toNat - 6) 0 = c.getD s.toNat 0 := by
        simp only [List.getD_eq_getElem?_getD, List.getElem?_drop]
        rw [show 6 + (s.toNat - 6) = s.toNat by omega]
      rw [e2]
      simp; omega
    · have e1 : ([s].filter fun s => decide (6 ≤ s)) = [] := by simp [h6]
      rw [e1, List.drop_set, if_pos (by omega), hsum]
      simp
theorem CInv.step {ns C : List Int} {s : Int} (h : CInv ns C) (h0 : 0 ≤ s) : CInv (ns ++ [s]) (cstep C s) := by
  unfold cstep
  by_cases hl : C.length ≤ s.toNat
  · simp only [if_pos hl]
    have g := h.grow (k := s.toNat - C.length + 1)
    have hlen : (C ++ List.replicate (s.toNat - C.length + 1) (0 : Int)).length = s.toNat + 1 := by rw [List.length_append, List.length_replicate]; omega
    exact CInv.put h0 (by omega) (fun x hx => by have := h.lt x hx; omega) (.inl (by omega)) g.1 (g.2.trans h.sum)
  · simp only [if_neg hl]
    exact CInv.put h0 (by omega) h.lt (.inr (h.top (by intro e; rw [e] at hl; simp at hl))) h.bnd h.sum
theorem CInv.all {ns : List Int} (h : ∀ s ∈ ns, 0 ≤ s) : CInv ns (ns.foldl cstep []) := by
  have key : ∀ (r pre C : List Int), CInv pre C → (∀ s ∈ r, 0 ≤ s) → CInv (pre ++ r) (r.foldl cstep C) := by
    intro r
    induction r with
    | nil => intro pre C hc _; simpa using hc
    | cons a r ih =>
      intro pre C hc hr
      rw [List.foldl_cons]
      have := ih (pre ++ [a]) _ (hc.step (hr a (List.Mem.head _))) fun s hs => hr s (List.mem_cons_of_mem _ hs)
      simpa using this
  exact key ns [] [] ⟨(fun _ h => nomatch h), (fun h => absurd rfl h), (fun _ h => nomatch h), rfl⟩ h
noncomputable abbrev notAt (i a : Nat) : Nat := if a = i then 0 else 1
theorem notAt_sum : ∀ i : Fin 6, notAt i 0 + notAt i 1 + notAt i 2 + notAt i 3 + notAt i 4 + notAt i 5 = 5 := by decide +kernel
theorem edge_notAt (g i a : Nat) : (edge g i a).toNat ≤ notAt i a := by
  unfold notAt
  by_cases h : a = i
  · subst h; simp [edge]
  · rw [if_neg h]; exact toNat_le _
theorem deg_le5 (g i : Nat) (hi : i < 6) : deg g i ≤ 5 := by
  have e := notAt_sum ⟨i, hi⟩
  exact Nat.le_trans (Nat.add_le_add (Nat.add_le_add (Nat.add_le_add (Nat.add_le_add (Nat.add_le_add (edge_notAt g i 0) (edge_notAt g i 1)) (edge_notAt g i 2)) (edge_notAt g i 3)) (edge_notAt g i 4)) (edge_notAt g i 5)) (Nat.le_of_eq e)
theorem sums_mem {g : Nat} {n : Int} (h : n ∈ sumsL g (untiedOf g)) : 0 ≤ n ∧ n ≤ 10 := by
  obtain ⟨p, hp, rfl⟩ := List.mem_map.mp h
  have hu := untied_lt hp
  have h1 := deg_le5 g p.1 hu.2.1
  have h2 := deg_le5 g p.2 (by omega)
  unfold sumOf
  omega
theorem sums_len (g : Nat) : (sumsL g (untiedOf g)).length = (untiedOf g).length := List.length_map _
theorem untied_len (g : Nat) : (untiedOf g).length ≤ 15 := List.length_filter_le _ _
/-- the text laid before the class -/
theorem text_codes (g : Nat) {X : Str} {k : Int} (hX : KStt.codes X = linesL (sumsL g (untiedOf g))) (hk : 0 ≤ k) :
    KStt.codes (X ++ Txt.mul (Str.ofString " ") k) = linesL (sumsL g (untiedOf g)) ++ List.replicate k.toNat 32 := by
  rw [codes_app, hX, codes_sp hk]
theorem codes_mem {X : Str} (h : ∀ c ∈ KStt.codes X, c = 32 ∨ c = 9) : ∀ c ∈ X.cps.toList, c = 32 ∨ c = 9 := fun c hc => by
  have := h (c : Int) (List.mem_map.mpr ⟨c, hc, rfl⟩)
  omega
theorem text_ok (g : Nat) {X : Str} {k : Int} (hX : KStt.codes X = linesL (sumsL g (untiedOf g))) (hk : 0 ≤ k) (h5 : k ≤ 5) :
    (∀ c ∈ (X ++ Txt.mul (Str.ofString " ") k).cps.toList, c = 32 ∨ c = 9) ∧ (X ++ Txt.mul (Str.ofString " ") k).cps.size ≤ 200 := by
  have e := text_codes g hX hk
  refine ⟨codes_mem fun c hc => ?_, ?_⟩
  · rw [e] at hc
    rcases List.mem_append.mp hc with hc | hc
    · exact lines_mem c hc
    · exact .inl (List.eq_of_mem_replicate hc)
  · have h1 : (X ++ Txt.mul (Str.ofString " ") k).cps.size = (KStt.codes (X ++ Txt.mul (Str.ofString " ") k)).length := (KStt.codes_length _).symm
    rw [h1, e, List.length_append, List.length_replicate]
    have h2 := lines_len (ns := sumsL g (untiedOf g)) fun n hn => by have := sums_mem hn; omega
    have h3 := untied_len g
    rw [sums_len] at h2
    omega
/-- all that the class tells of the lead -/
structure Lead (g : Nat) (k : Int) (nt b : Int) (count : List Int) : Prop where
  nt : nt = (untiedOf g).length
  b : b = k
  len : count.length ≤ 12
  mem : ∀ y ∈ count, 0 ≤ y ∧ y ≤ 200
  sum : (count.drop 6).sum = (((sumsL g (untiedOf g)).filter fun s => decide (6 ≤ s)).length : Int)
  top : count ≠ [] → (count.length : Int) - 1 ∈ sumsL g (untiedOf g)
  all : ∀ s ∈ sumsL g (untiedOf g), s ≤ (count.length : Int) - 1
theorem lead_of {g : Nat} {X : Str} {k : Int} {n nt b : Int} {count : List Int} (hX : KStt.codes X = linesL (sumsL g (untiedOf g))) (hk : 0 ≤ k)
    (h : wsFold (KStt.codes (X ++ Txt.mul (Str.ofString " ") k)) = (n, nt, b, count)) : Lead g k nt b count := by
  rw [text_codes g hX hk] at h
  have h0 : ∀ s ∈ sumsL g (untiedOf g), 0 ≤ s := fun s hs => (sums_mem hs).1
  obtain ⟨N', e⟩ := ws_fold h0 k.toNat
  rw [h] at e
  have e1 : nt = ((sumsL g (untiedOf g)).length : Int) := congrArg (fun x => x.2.1) e
  have e2 : b = (k.toNat : Int) := congrArg (fun x => x.2.2.1) e
  have e3 : count = (sumsL g (untiedOf g)).foldl cstep [] := congrArg (fun x => x.2.2.2) e
  have I := CInv.all h0
  rw [← e3] at I
  have h15 := untied_len g
  refine ⟨by rw [e1, sums_len], by omega, ?_, fun y hy => ?_, I.sum, fun hne => ?_, fun s hs => ?_⟩
  · by_cases hc : count = []
    · rw [hc]; simp
    · obtain ⟨s, hs, e⟩ := I.top hc
      have := sums_mem hs
      omega
  · have := I.bnd y hy
    rw [sums_len] at this
    omega
  · obtain ⟨s, hs, e⟩ := I.top hne
    have := sums_mem hs
    have : (count.length : Int) - 1 = s := by omega
    rw [this]; exact hs
  · have := I.lt s hs
    have := sums_mem hs
    omega
theorem mod6 (g : Nat) : 0 ≤ Int.fmod ((untiedOf g).length : Int) 6 ∧ Int.fmod ((untiedOf g).length : Int) 6 ≤ 5 := by
  rw [Int.fmod_eq_emod_of_nonneg _ (by decide)]
  omega
theorem mod6' {g : Nat} {X : Str} (_ : KStt.codes X = linesL (sumsL g (untiedOf g))) : 0 ≤ Int.fmod ((untiedOf g).length : Int) 6 ∧ Int.fmod ((untiedOf g).length : Int) 6 ≤ 5 := mod6 g
theorem text_len {g : Nat} {X : Str} (h : KStt.codes X = linesL (sumsL g (untiedOf g))) : X.length ≤ 195 := by
  rw [← KStt.codes_length, h]
  have h2 := lines_len (ns := sumsL g (untiedOf g)) fun n hn => by have := sums_mem hn; omega
  have h3 := untied_len g
  rw [sums_len] at h2
  omega
theorem pairs_len {prog : Program} {w : World} {A : Around} {E : Value → Shared → Prop} {s : Shared} {Q : Value → Shared → Prop} {h₀ : Heap} {L D : Addr} {news tl : List (Addr × Obj)} {g k : Nat} {vs : List Value}
    (N : News h₀ L s.heap news) (hm : (D, listOf (List.toArray vs) k) ∈ news) (hP : PairsIn tl vs (untiedOf g)) (h : Q (.int ((untiedOf g).length : Int) (s.toks + 1)) { s with toks := s.toks + 1 + 1 }) :
    wpAny (model prog w) A (call (.builtin "len") [.ref D]) Q E s := by
  have h2 := untied_len g
  have e : vs.toArray.size = (untiedOf g).length := by rw [List.size_toArray, hP.1]
  refine Calls.call_len_list ⟨_, (N _ hm).1, rfl, _, rfl⟩ (by rw [e]; omega) ?_
  rw [e]
  exact h
theorem line_len {n : Int} (h : 0 ≤ n) (h2 : n ≤ 12) : (lineOf n).length ≤ 13 := by
  have e : (lineOf n).length = (KStt.codes (lineOf n)).length := (KStt.codes_length _).symm
  rw [e, codes_line h, List.length_append, List.length_replicate, List.length_singleton]
  omega
theorem lines_sum : ∀ {ns : List Int}, (∀ n ∈ ns, 0 ≤ n ∧ n ≤ 12) → ((ns.map lineOf).map (·.length)).sum ≤ 13 * ns.length
  | [], _ => Nat.le_refl _
  | a :: r, h => by
    have h1 := lines_sum (ns := r) fun n hn => h n (List.mem_cons_of_mem _ hn)
    have h2 := line_len (h a (List.Mem.head _)).1 (h a (List.Mem.head _)).2
    simp only [List.map_cons, List.sum_cons, List.length_cons]
    omega
theorem runs_join {prog : Program} {w : World} {A : Around} {E : Value → Shared → Prop} {s : Shared} {Q : Value → Shared → Prop} {h₀ : Heap} {L D : Addr} {news : List (Addr × Obj)} {g : Nat} {ys : List Value} {t : Tok}
    (N : News h₀ L s.heap news) (hm : (D, LCg.lst ys) ∈ news) (hS : StrsAre ys ((sumsL g (untiedOf g)).map lineOf)) (h : ∀ X t' k, KStt.codes X = linesL (sumsL g (untiedOf g)) → Q (.str X t') { s with toks := k }) :
    wpAny (model prog w) A (call (.builtin "str.join") [.str (Str.ofString "") t, .ref D]) Q E s := by
  have h0 : ∀ n ∈ sumsL g (untiedOf g), 0 ≤ n ∧ n ≤ 12 := fun n hn => by have := sums_mem hn; omega
  refine join_listC ⟨_, (N _ hm).1, rfl, _, rfl⟩ (by simpa using hS) (by decide +kernel) ?_ fun t' k => h _ t' k (codes_lines fun n hn => (h0 n hn).1)
  have h1 := lines_sum h0
  have h2 := untied_len g
  rw [List.length_map, sums_len]
  rw [sums_len] at h1
  omega
theorem Lead.nt_le {g : Nat} {k nt b : Int} {count : List Int} (ld : Lead g k nt b count) : 0 ≤ nt ∧ nt ≤ 200 := by
  have := untied_len g
  have := ld.nt
  omega
theorem Lead.more {g : Nat} {k nt b : Int} {count : List Int} (ld : Lead g k nt b count) (hk : k ≤ 5) (h : 0 < (count.drop 6).sum) : b < (count.length : Int) - 1 ∧ (6 : Int) ≤ (count.length : Int) - 1 ∧ (count.length : Int) - 1 ∈ sumsL g (untiedOf g) := by
  have h1 : 6 < count.length := by
    rcases Nat.lt_or_ge 6 count.length with q | q
    · exact q
    · rw [List.drop_of_length_le q] at h; exact absurd h (by decide)
  have hb := ld.b
  refine ⟨by omega, by omega, ld.top (by intro e; rw [e] at h1; simp at h1)⟩
theorem Lead.closed {g : Nat} {k nt b : Int} {count : List Int} (ld : Lead g k nt b count) (h : (count.drop 6).sum ≤ 0) : Closed g := by
  intro i j hs
  have hm : (sumOf g (i, j) : Int) ∈ (sumsL g (untiedOf g)).filter fun s => decide (6 ≤ s) := by
    refine List.mem_filter.mpr ⟨List.mem_map.mpr ⟨(i, j), mem_untied hs.1 hs.2.1 hs.2.2.1, rfl⟩, ?_⟩
    have h6 := hs.2.2.2
    have e : (6 : Int) ≤ (sumOf g (i, j) : Int) := by show (6 : Int) ≤ ((deg g i + deg g j : Nat) : Int); omega
    simpa using e
  have := List.length_pos_of_mem hm
  rw [ld.sum] at h
  omega
theorem tok_ok {ys : List Value} {ns : List Int} {n : Int} {tk t : Nat} (hI : IntsAre ys ns) (hT : ∀ x t, Value.int x t ∈ ys → 1 ≤ t ∧ t < tk) (hn : n ∈ ns) (hle : tk ≤ t) : t ≠ 0 ∧ ∀ x tx, Value.int x tx ∈ ys → tx ≠ 0 ∧ tx ≠ t := by
  obtain ⟨i, hi, e⟩ := List.mem_iff_getElem.mp hn
  have hv : i < ys.length := by
    have := hI.length
    omega
  obtain ⟨x, u, e1, _⟩ := hI.at i ys[i] (List.getElem?_eq_getElem hv)
  have h1 := hT x u (by rw [← e1]; exact List.getElem_mem hv)
  have h2 : 1 < tk := Nat.lt_of_le_of_lt h1.1 h1.2
  have h3 : 1 < t := Nat.lt_of_lt_of_le h2 hle
  refine ⟨Nat.ne_of_gt (Nat.lt_of_succ_lt h3), fun x tx hx => ?_⟩
  have h4 := hT x tx hx
  exact ⟨Nat.ne_of_gt h4.1, Nat.ne_of_lt (Nat.lt_of_lt_of_le h4.2 hle)⟩
/-- the place found is the best pair's -/
theorem Lead.best {g : Nat} {k nt b : Int} {count : List Int} (ld : Lead g k nt b count) (h6 : (6 : Int) ≤ (count.length : Int) - 1) {i : Nat} (hi : (sumsL g (untiedOf g))[i]? = some ((count.length : Int) - 1)) (hno : ∀ k', k' < i → (sumsL g (untiedOf g))[k']? ≠ some ((count.length : Int) - 1)) :
    ∃ p, Best g i p := by
  unfold sumsL at hi hno
  rw [List.getElem?_map] at hi
  cases q : (untiedOf g)[i]? with
  | none => rw [q] at hi; cases hi
  | some p =>
    rw [q] at hi
    have e : (sumOf g p : Int) = (count.length : Int) - 1 := Option.some.inj hi
    have le : ∀ r ∈ untiedOf g, sumOf g r ≤ sumOf g p := fun r hr => by
      have := ld.all (sumOf g r : Int) (List.mem_map.mpr ⟨r, hr, rfl⟩)
      omega
    refine ⟨p, q, by omega, le, fun k' hk r hr => ?_⟩
    have h1 := le r (List.mem_of_getElem? hr)
    have h2 := hno k' hk
    rw [List.getElem?_map, hr] at h2
    have h3 : (sumOf g r : Int) ≠ (count.length : Int) - 1 := fun e' => h2 (congrArg some e')
    omega
noncomputable def TokGe (n m : Nat) : Prop := n ≤ m
noncomputable def TkLB (n m : Nat) : Prop := n ≤ m
theorem tokGe_of {n a b t : Nat} (h : TkLB n a) (h1 : a ≤ b) (h2 : b ≤ t) : TokGe n t := Nat.le_trans h (Nat.le_trans h1 h2)
theorem small_of {n : Int} (h0 : 0 ≤ n) (h : n ≤ 256) : smallInt n = true := by
  unfold smallInt
  simp
  omega
/-- an item of a list of the ledger -/
theorem item_led {prog : Program} {w : World} {A : Around} {E : Value → Shared → Prop} {s : Shared} {h₀ : Heap} {L : Addr} {news : List (Addr × Obj)} {value slice : PySem.Expr} {l : Addr} {vs : List Value} {ln k : Nat} {u : Tok} {v : Value} {Q : Value → Shared → Prop}
    (N : News h₀ L s.heap news) (hm : (l, listOf (List.toArray vs) ln) ∈ news) (hk : k < 1000) (hx : vs[k]? = some v) (h : Q v s)
    (hs : subscripted slice false (.ref l) (.int (k : Int) u) = operate [.ref l, .int (k : Int) u] (getItem (.ref l) (.int (k : Int) u)) := by with_unfolding_all rfl) :
    wpAny (model prog w) A (subscriptTail value slice (.ref l) (.int (k : Int) u)) Q E s := by
  have hl : s.heap.IsList l vs.toArray := ⟨_, (N _ hm).1, rfl, _, rfl⟩
  exact tail_any hl.typeIs slot_list_getitem.lookup (wpAny_getItem_list hl (by omega) (by omega) (by simpa using hx) h) hs
structure SumsOk (g : Nat) (ys : List Value) (tk : Nat) : Prop where
  hvals : IntsAre ys (sumsL g (untiedOf g))
  htks : ∀ x t, Value.int x t ∈ ys → 1 ≤ t ∧ t < tk
theorem assign_pair {prog : Program} {w : World} {A : Around} {E : Value → Shared → Prop} {s : Shared} {env : Env} {h₀ : Heap} {m : Str → Option Value} {news : List (Addr × Obj)} {x0 x1 : Str} {p0 p1 tp : Pos} {x2} {a i j : Nat} {t u : Tok} {n : Nat} {Q : Unit → Shared → Prop}
    (F : Fr h₀ env.locals s.heap m) (N : News h₀ env.locals s.heap news) (hm : (a, pairOf i j t u n) ∈ news) (hh : A.handled = none) (hx0 : env.kindOf x0 = some .local) (hx1 : env.kindOf x1 = some .local)
    (hp : (env.scope.kind == .class || (env.scope.kind == .module && env.locals != env.globals)) = false)
    (h : ∀ h' tk', s.toks ≤ tk' → Fr h₀ env.locals h' (fun y => if y = x1 then some (.int (j : Nat) u) else if y = x0 then some (.int (i : Nat) t) else m y) → News h₀ env.locals h' news → Q () { s with heap := h', toks := tk' }) :
    wpAny (model prog w) A (assign (.Tuple [.Name x0 p0, .Name x1 p1] x2 tp) env (.ref a)) Q E s := by
  refine assign_Tuple_tuple (items := #[_, _]) hh ⟨_, (N _ hm).1, rfl, _, rfl⟩ rfl rfl fun h₃ he => ?_
  have up : ∀ b o, s.heap.get? b = some o → h₃.get? b = some o := fun b o e => he b o (Nat.ne_of_lt (Heap.lt_size e)) e
  have F₃ := F.keeps up
  have N₃ := N.grown up
  refine assignInOrder_cons (wpAny_assign_Name (wpAny_storeName_local hx0 F₃.ns (fun h₄ hn₄ hs₄ => ?_) hp))
  have F₄ := F₃.set hn₄ hs₄
  have N₄ := N₃.set hs₄
  refine assignInOrder_cons (wpAny_assign_Name (wpAny_storeName_local hx1 F₄.ns (fun h₅ hn₅ hs₅ => ?_) hp))
  exact assignInOrder_nil (h h₅ _ (Nat.le_trans (Nat.le_succ _) (Nat.le_succ _)) (F₄.set hn₅ hs₅) (N₄.set hs₅))
section
variable {prog : Program} {w : World} {A : Around} {E : Value → Shared → Prop} {s : Shared} {h₀ : Heap} {L l : Addr} {m : Str → Option Value} {p0 p1 : Addr × Obj} {rest : List (Addr × Obj)} {vs : List Value} {k : Nat}
theorem append_led {v : Value} {Q : Value → Shared → Prop} (F : Fr h₀ L s.heap m) (N : News h₀ L s.heap (p0 :: (l, listOf (List.toArray vs) k) :: rest)) (h0 : @Ne Nat p0.1 l) (h2 : ∀ p ∈ rest, p.1 ≠ l) (hz : vs.length ≤ 1000)
    (h : ∀ h' k', Fr h₀ L h' m → News h₀ L h' (p0 :: (l, listOf (List.toArray (vs ++ [v])) k') :: rest) → Q .none { s with heap := h' }) : wpAny (model prog w) A (call (.builtin "list.append") [.ref l, v]) Q E s := by
  have hm := N _ (.tail _ (.head _))
  refine append_at (hsz := by rw [List.size_toArray, sizeLine_eq]; omega) hm.1 fun h' hs hD => ?_
  refine h h' (k + 1) (F.change hs hm.2.1 hm.2.2) fun p hp => ?_
  rcases List.mem_cons.mp hp with rfl | hp
  · exact ⟨hs.extBut _ _ h0 (N _ (.head _)).1, (N _ (.head _)).2⟩
  · rcases List.mem_cons.mp hp with rfl | hp
    · exact ⟨by rw [hD, List.push_toArray], hm.2⟩
    · have hp' := N p (.tail _ (.tail _ hp))
      exact ⟨hs.extBut _ _ (h2 p hp) hp'.1, hp'.2⟩
theorem del_led {u : Tok} {i : Nat} {Q : Unit → Shared → Prop} (F : Fr h₀ L s.heap m) (N : News h₀ L s.heap (p0 :: p1 :: (l, listOf (List.toArray vs) k) :: rest)) (h0 : @Ne Nat p0.1 l) (h1 : @Ne Nat p1.1 l) (h2 : ∀ p ∈ rest, p.1 ≠ l) (hz : vs.length ≤ 1000) (hi : i < vs.length)
    (h : ∀ h' k', Fr h₀ L h' m → News h₀ L h' (p0 :: p1 :: (l, listOf (List.toArray (vs.eraseIdx i)) k') :: rest) → Q () { s with heap := h' }) : wpAny (model prog w) A (delItem (.ref l) (.int (i : Int) u)) Q E s := by
  have hm := N _ (.tail _ (.tail _ (.head _)))
  have hk : seqIndex? (i : Int) vs.toArray.size = some i := by
    unfold seqIndex?
    rw [List.size_toArray]
    have a1 : ¬ (i : Int) < 0 := by omega
    simp only [a1, if_false]
    rw [if_pos (by simp; omega)]
    simp
  have hf : Builtin.List.listFitsIndex (i : Int) = true := by
    unfold Builtin.List.listFitsIndex
    simp
    omega
  refine delItem_at (hsz := by rw [List.size_toArray, sizeLine_eq]; omega) hm.1 hf hk fun h' hs hD => ?_
  refine h h' (k + 1) (F.change hs hm.2.1 hm.2.2) fun p hp => ?_
  rcases List.mem_cons.mp hp with rfl | hp
  · exact ⟨hs.extBut _ _ h0 (N _ (.head _)).1, (N _ (.head _)).2⟩
  · rcases List.mem_cons.mp hp with rfl | hp
    · exact ⟨hs.extBut _ _ h1 (N _ (.tail _ (.head _))).1, (N _ (.tail _ (.head _))).2⟩
    · rcases List.mem_cons.mp hp with rfl | hp
      · exact ⟨hD, hm.2⟩
      · have hp' := N p (.tail _ (.tail _ (.tail _ hp)))
        exact ⟨hs.extBut _ _ (h2 p hp) hp'.1, hp'.2⟩
end
theorem trail_sum {g g' : Nat} {tr : List (Nat × Nat)} (h : Trail g tr g') : tr.length + degSum g ≤ degSum g' := by
  induction h with
  | nil => simp
  | snoc _ hb ih =>
    have := degSum_step hb.step
    rw [List.length_append, List.length_singleton]
    omega
theorem trail_len {g g' : Nat} {tr : List (Nat × Nat)} {tl : List (Addr × Obj)} {vs : List Value} (h : Trail g tr g') (hT : PairsIn tl vs tr) : vs.length ≤ 1000 := by
  have h1 := trail_sum h
  have h2 := degSum_le g'
  have h3 := hT.1
  omega
theorem pairs_len' {g : Nat} {tl : List (Addr × Obj)} {vs : List Value} (hP : PairsIn tl vs (untiedOf g)) : vs.length ≤ 1000 := by
  have h1 := untied_len g
  have h3 := hP.1
  omega
theorem best_lt {g k : Nat} {p : Nat × Nat} {tl : List (Addr × Obj)} {vs : List Value} (hP : PairsIn tl vs (untiedOf g)) (h : Best g k p) : k < vs.length := by
  have h1 := (List.getElem?_eq_some_iff.mp h.1).1
  have h3 := hP.1
  omega
theorem PairsIn.erase {tl : List (Addr × Obj)} {ys : List Value} {ps : List (Nat × Nat)} (h : PairsIn tl ys ps) (k : Nat) : PairsIn tl (ys.eraseIdx k) (ps.eraseIdx k) := by
  refine ⟨?_, fun i p hi => ?_⟩
  · rw [List.length_eraseIdx, List.length_eraseIdx, h.1]
  · rw [List.getElem?_eraseIdx] at hi ⊢
    by_cases q : i < k
    · rw [if_pos q] at hi ⊢; exact h.2 i p hi
    · rw [if_neg q] at hi ⊢; exact h.2 (i + 1) p hi
theorem num_best {g k : Nat} {p : Nat × Nat} (h : Best g k p) : (numN g : Int) + (1 * 2 ^ (4 * (p.1 : Int)).toNat + 1 * 2 ^ (4 * (p.2 : Int)).toNat) = (numN (addE g p.1 p.2) : Int) := by
  rw [numN_step h.step]
  have hb := h.bds
  have e : ∀ i : Nat, i < 6 → (1 * 2 ^ (4 * (i : Int)).toNat : Int) = ((16 ^ i : Nat) : Int) := by
    intro i hi
    have : i = 0 ∨ i = 1 ∨ i = 2 ∨ i = 3 ∨ i = 4 ∨ i = 5 := by omega
    rcases this with rfl | rfl | rfl | rfl | rfl | rfl <;> rfl
  rw [e _ hb.1, e _ hb.2]
  omega
end

section
open PySem PySem.W PySem.Calls PyProof.Rows
set_option maxRecDepth 100000
open PySem.SeqAt PySem.MeetsSeq
open PySem.AutoSeq1 (wpAny_loadPart')

noncomputable def eAt (p q : Nat × Nat) (j : Nat) : Bool := if j = 0 then p.1 == q.1 else p.2 == q.2
theorem eAt_items {A : Around} {s : Shared} {p q : Nat × Nat} {t u t' u' : Tok} : ∀ j (h1 : j < (#[.int (p.1 : Int) t, .int (p.2 : Int) u] : Array Value).size) (h2 : j < (#[.int (q.1 : Int) t', .int (q.2 : Int) u'] : Array Value).size),
    EqAt A s (#[.int (p.1 : Int) t, .int (p.2 : Int) u] : Array Value)[j] (#[.int (q.1 : Int) t', .int (q.2 : Int) u'] : Array Value)[j] (eAt p q j) := by
  have cast : ∀ a b : Nat, ((a : Int) == (b : Int)) = (a == b) := fun a b => by
    rw [Bool.eq_iff_iff]; simp; omega
  intro j h1 h2
  have hj : j = 0 ∨ j = 1 := by simp at h1; omega
  rcases hj with rfl | rfl
  · have := EqAt.int_int (A := A) (s := s) (p.1 : Int) t (q.1 : Int) t'
    rw [cast] at this
    exact this
  · have := EqAt.int_int (A := A) (s := s) (p.2 : Int) u (q.2 : Int) u'
    rw [cast] at this
    exact this
theorem eAt_all (p q : Nat × Nat) : ((List.range (min 2 2)).all (eAt p q) && (2 : Nat) == 2) = (p == q) := by
  rw [Bool.eq_iff_iff]
  simp [eAt, List.range_succ, Prod.ext_iff]
theorem eq_pair {A : Around} {s : Shared} {a b : Addr} {p q : Nat × Nat} {t u t' u' : Tok} {n n' : Nat} (hab : a ≠ b) (ha : s.heap.get? a = some (pairOf p.1 p.2 t u n)) (hb : s.heap.get? b = some (pairOf q.1 q.2 t' u' n')) (hu : A.units < cLine) :
    EqAt A s (.ref a) (.ref b) (p == q) := by
  refine EqAt.of_refs hab ?_
  have := RcAt.tuples (A := A) (s := s) (l := a) (b := b) (e := eAt p q) ⟨_, ha, rfl, _, rfl⟩ ⟨_, hb, rfl, _, rfl⟩ hu eAt_items
  rw [← eAt_all p q]
  exact this
theorem ne_pair {prog : Program} {w : World} {A : Around} {E : Value → Shared → Prop} {s : Shared} {a b : Addr} {p : Nat × Nat} {t u t' u' : Tok} {n n' : Nat} {Q : Value → Shared → Prop} (ha : s.heap.get? a = some (pairOf p.1 p.2 t u n)) (hb : s.heap.get? b = some (pairOf p.1 p.2 t' u' n')) (hu : A.units < cLine)
    (h : Q (.bool false) s) : wpAny (model prog w) A (compareOp .NotEq (.ref a) (.ref b)) Q E s := by
  have := RcNeAt.tuples (A := A) (s := s) (l := a) (b := b) (e := eAt p p) ⟨_, ha, rfl, _, rfl⟩ ⟨_, hb, rfl, _, rfl⟩ hu eAt_items
  refine cmp_ofNotEq (this prog w E Q ?_)
  have e : (!((List.range (min 2 2)).all (eAt p p) && (2 : Nat) == 2)) = false := by rw [eAt_all]; simp
  show Q (.bool (!((List.range (min 2 2)).all (eAt p p) && (2 : Nat) == 2))) s
  rw [e]
  exact h

/-- xs.remove(x), the items compared where they lie -/
theorem remove_loopAt (l : Addr) (items : Array Value) (n : Nat) (x : Value) (e : Value → Bool) (j : Nat) (hj : j < items.size) (hit : e items[j] = true) (k : Nat) (hs1 : items.size ≤ sizeLine) :
    ∀ i : Nat, j - i = k → i ≤ j → (∀ m (hm : m < items.size), i ≤ m → m < j → e items[m] = false) → Meets (Builtin.«list.remove.loop» ⟨[.ref l, x, rawInt i], []⟩)
      (fun A R s => s.heap.get? l = some { cls := .type "list", dict := none, data := .seq items n, slots := #[] } ∧ (∀ y, y ∈ items → EqAt A.in1 s y x (e y)) ∧ R (.ok (.ret .none)) { s with heap := s.heap.update l (Obj.mapSeq fun xs => xs.eraseIdxIfInBounds j) }) := by
  induction k with
  | zero =>
    intro i hk hij hno prog w A R s h
    obtain ⟨hp, g, d, tk, os⟩ := s
    obtain ⟨hl, he, h⟩ := h
    have hij' : i = j := by omega
    subst hij'
    wp_walk using wpAny_loadPart' hl
    have hi : items[((i : Nat) : Int).toNat]? = some items[i] := by simp [hj]
    rw [hi]
    refine wpAny_bind (he _ (Array.getElem_mem hj) prog w _ _ ?_)
    rw [hit]
    have hz' : (items.eraseIdxIfInBounds i).size ≤ sizeLine + 1 := Nat.le_trans (size_erased items _) (Nat.le_succ_of_le hs1)
    wp_walk using (wpAny_updateSeq hl rfl (hz := hs1) (_hz' := hz')), wpAny_loadPart' hl
    simpa using h
  | succ k ih =>
    intro i hk hij hno prog w A R s h
    obtain ⟨hp, g, d, tk, os⟩ := s
    obtain ⟨hl, he, h⟩ := h
    have hlt : i < items.size := by omega
    wp_walk using wpAny_loadPart' hl
    have hi : items[((i : Nat) : Int).toNat]? = some items[i] := by simp [hlt]
    have hc : ((i : Int) + 1) = ((i + 1 : Nat) : Int) := by omega
    rw [hi]
    refine wpAny_bind (he _ (Array.getElem_mem hlt) prog w _ _ ?_)
    rw [hno i hlt (Nat.le_refl _) (by omega)]
    wp_walk
    rw [hc]
    exact ⟨plainId_quiet plain_remove_loop _, codeAny_builtin entry_remove_loop (by
      rw [Around.under_plainId plain_remove_loop _]
      exact ih (i + 1) (by omega) (by omega) (fun m hm h1 h2 => hno m hm (by omega) h2) prog w A R _ ⟨hl, he, h⟩)⟩
theorem list_removeAt (l : Addr) (items : Array Value) (n : Nat) (x : Value) (e : Value → Bool) (j : Nat) (hj : j < items.size) (hit : e items[j] = true) (hno : ∀ m (hm : m < items.size), m < j → e items[m] = false) (hs1 : items.size ≤ sizeLine) :
    Meets (Builtin.«list.remove» ⟨[.ref l, x], []⟩)
      (fun A R s => s.heap.get? l = some { cls := .type "list", dict := none, data := .seq items n, slots := #[] } ∧ (∀ y, y ∈ items → EqAt A.in1 s y x (e y)) ∧ R (.ok (.ret .none)) { s with heap := s.heap.update l (Obj.mapSeq fun xs => xs.eraseIdxIfInBounds j) }) := by
  intro prog w A R s h
  obtain ⟨hp, g, d, tk, os⟩ := s
  obtain ⟨hl, he, h⟩ := h
  wp_walk using wpAny_loadPart' hl
  exact ⟨plainId_quiet plain_remove_loop _, codeAny_builtin entry_remove_loop (by
    rw [Around.under_plainId plain_remove_loop _]
    exact remove_loopAt l items n x e j hj hit _ hs1 0 rfl (Nat.zero_le _) (fun m hm _ h2 => hno m hm h2) prog w A R _ ⟨hl, he, h⟩)⟩
open Classical in
noncomputable def pairIs (h : Heap) (p : Nat × Nat) (y : Value) : Bool := match y with
  | .ref a => decide (∃ t u n, h.get? a = some (pairOf p.1 p.2 t u n))
  | _ => false
theorem pairIs_at {h : Heap} {p q : Nat × Nat} {a : Addr} {t u : Tok} {n : Nat} (ha : h.get? a = some (pairOf q.1 q.2 t u n)) : pairIs h p (.ref a) = (q == p) := by
  unfold pairIs
  rw [Bool.eq_iff_iff]
  simp only [decide_eq_true_eq, beq_iff_eq]
  constructor
  · rintro ⟨t', u', n', e⟩
    rw [ha] at e
    have e' := Option.some.inj e
    simp only [pairOf, Obj.mk.injEq, Data.seq.injEq, Array.mk.injEq, List.cons.injEq, Value.int.injEq, true_and, and_true] at e'
    refine Prod.ext ?_ ?_ <;> omega
  · rintro rfl
    exact ⟨t, u, n, ha⟩
theorem remove_led {prog : Program} {w : World} {A : Around} {E : Value → Shared → Prop} {s : Shared} {h₀ : Heap} {L l b : Addr} {m : Str → Option Value} {rest tl : List (Addr × Obj)} {vs : List Value} {ps : List (Nat × Nat)} {k i : Nat} {p : Nat × Nat} {t u : Tok} {n : Nat} {Q : Value → Shared → Prop}
    (F : Fr h₀ L s.heap m) (N : News h₀ L s.heap ((l, listOf (List.toArray vs) k) :: rest)) (h2 : ∀ p ∈ rest, p.1 ≠ l) (hP : PairsIn tl vs ps) (htl : ∀ q ∈ tl, q ∈ rest) (hi : ps[i]? = some p) (hnd : ps.Nodup)
    (hb₀ : h₀.get? b = some (pairOf p.1 p.2 t u n)) (hu : A.units + 5 < cLine) (hz : vs.length ≤ 1000)
    (h : ∀ h' k', Fr h₀ L h' m → News h₀ L h' ((l, listOf (List.toArray (vs.eraseIdx i)) k') :: rest) → Q .none { s with heap := h' }) : wpAny (model prog w) A (call (.builtin "list.remove") [.ref l, .ref b]) Q E s := by
  have hm := N _ (.head _)
  have hb := F.keep _ _ hb₀
  have hil : i < ps.length := (List.getElem?_eq_some_iff.mp hi).1
  have hip : ps[i] = p := (List.getElem?_eq_some_iff.mp hi).2
  have hiv : i < vs.length := by rw [hP.1]; exact hil
  have at' : ∀ j (hj : j < vs.length), ∃ a t' u' n', vs[j] = .ref a ∧ s.heap.get? a = some (pairOf (ps[j]'(hP.1 ▸ hj)).1 (ps[j]'(hP.1 ▸ hj)).2 t' u' n') ∧ a ≠ b := fun j hj => by
    obtain ⟨a, t', u', n', ha, hmem⟩ := hP.2 j (ps[j]'(hP.1 ▸ hj)) (List.getElem?_eq_getElem _)
    have e : vs[j] = .ref a := by
      have := (List.getElem?_eq_some_iff.mp ha).2
      exact this
    have hN := N _ (List.mem_cons_of_mem _ (htl _ hmem))
    refine ⟨a, t', u', n', e, hN.1, fun q => ?_⟩
    have := hN.2.2
    simp only at this
    rw [q, hb₀] at this
    cases this
  have hval : ∀ j (hj : j < vs.length), pairIs s.heap p vs[j] = (ps[j]'(hP.1 ▸ hj) == p) := fun j hj => by
    obtain ⟨a, t', u', n', e, ha, _⟩ := at' j hj
    rw [e, pairIs_at ha]
  refine call_meets PySem.F.slot_list_remove ⟨_, hm.1, rfl⟩ PySem.F.entry_list_remove (PySem.F.args_list_remove_2 _ _)
    (list_removeAt l vs.toArray k (.ref b) (pairIs s.heap p) i (by simpa using hiv) ?_ ?_ (by rw [List.size_toArray, sizeLine_eq]; omega)) ⟨hm.1, fun y hy => ?_, ?_⟩
  · show pairIs s.heap p vs[i] = true
    rw [hval i hiv, hip]; simp
  · intro j hj hlt
    show pairIs s.heap p vs[j] = false
    have hj' : j < vs.length := by simpa using hj
    rw [hval j hj']
    have : ps[j]'(hP.1 ▸ hj') ≠ p := by
      rw [← hip]
      intro e
      have := (List.getElem_inj hnd).mp e
      omega
    simpa using this
  · have hy' : y ∈ vs := by simpa using hy
    obtain ⟨j, hj, rfl⟩ := List.mem_iff_getElem.mp hy'
    obtain ⟨a, t', u', n', e, ha, hab⟩ := at' j hj
    rw [e, pairIs_at ha]
    exact eq_pair hab ha hb (by simp; omega)
  · have hs : Heap.SameBut l s.heap (s.heap.update l (Obj.mapSeq fun xs => xs.eraseIdxIfInBounds i)) := Heap.SameBut.update ..
    refine h _ (k + 1) (F.change hs hm.2.1 hm.2.2) fun q hq => ?_
    rcases List.mem_cons.mp hq with rfl | hq
    · refine ⟨?_, hm.2⟩
      have hlt : i < vs.toArray.size := by simpa using hiv
      rw [Heap.get?_update_self _ hm.1 (by rw [mapSeq_erase _ _ _ hlt]; rfl), mapSeq_erase _ _ _ hlt]
    · have hq' := N q (.tail _ hq)
      exact ⟨hs.extBut _ _ (h2 q hq) hq'.1, hq'.2⟩
end

section
open PySem PySem.W PySem.Calls PyProof.Rows
set_option maxRecDepth 100000
noncomputable def netAt (g : Nat) (tr : List (Nat × Nat)) : Nat := tr.foldl (fun g p => addE g p.1 p.2) g
theorem Trail.net {g g' : Nat} {tr : List (Nat × Nat)} (h : Trail g tr g') : g' = netAt g tr := by
  induction h with
  | nil => rfl
  | snoc _ _ ih => unfold netAt at ih ⊢; rw [List.foldl_append, ih]; rfl
theorem netAt_next {g i : Nat} {tr : List (Nat × Nat)} {p : Nat × Nat} (h : tr[i]? = some p) : netAt g (tr.take (i + 1)) = addE (netAt g (tr.take i)) p.1 p.2 := by
  unfold netAt
  rw [List.take_add_one, h, Option.toList_some, List.foldl_append]; rfl
theorem best_at {g g' : Nat} {tr : List (Nat × Nat)} (h : Trail g tr g') : ∀ i p, tr[i]? = some p → ∃ k, Best (netAt g (tr.take i)) k p := by
  induction h with
  | nil => intro i p h; simp at h
  | @snoc tr g' k p ht hb ih =>
    intro i q hq
    by_cases hi : i < tr.length
    · rw [List.getElem?_append_left hi] at hq
      obtain ⟨k, hk⟩ := ih i q hq
      refine ⟨k, ?_⟩
      rw [List.take_append_of_le_length (Nat.le_of_lt hi)]
      exact hk
    · have hl := (List.getElem?_eq_some_iff.mp hq).1
      have e : i = tr.length := by simp at hl; omega
      subst e
      rw [List.getElem?_append_right (Nat.le_refl _)] at hq
      simp at hq
      subst hq
      refine ⟨k, ?_⟩
      rw [List.take_append_of_le_length (Nat.le_refl _), List.take_length, ← ht.net]
      exact hb
section
variable {prog : Program} {w : World} {A : Around} {E : Value → Shared → Prop} {s : Shared} {h₀ : Heap} {L D : Addr} {m : Str → Option Value} {news : List (Addr × Obj)} {g k : Nat} {p : Nat × Nat} {ys : List Value} {n : Nat} {Q : Value → Shared → Prop}
theorem deg_item {ws : List Value} {ds : List Int} {a : Nat} {u : Tok} {value slice : PySem.Expr} (N : News h₀ L s.heap news) (hm : (D, listOf (List.toArray ws) n) ∈ news) (hI : IntsAre ws ds) (hds : ds = degsOf g) (ha : a < 6) (h : ∀ t, Q (.int (deg g a : Int) t) s)
    (hs : subscripted slice false (.ref D) (.int (a : Int) u) = operate [.ref D, .int (a : Int) u] (getItem (.ref D) (.int (a : Int) u)) := by with_unfolding_all rfl) :
    wpAny (model prog w) A (subscriptTail value slice (.ref D) (.int (a : Int) u)) Q E s := by
  subst hds
  have h6 : (degsOf g).length = 6 := rfl
  have hl := hI.length
  have hw : a < ws.length := by omega
  obtain ⟨x, t, e, hx⟩ := hI.at a ws[a] (List.getElem?_eq_getElem hw)
  refine item_led N hm (by omega) ((List.getElem?_eq_getElem hw).trans (congrArg some e)) ?_ hs
  have hg := six_get (deg g) (k := (a : Int)) (by omega) (by omega)
  simp only [Int.toNat_natCast] at hg
  have : x = (deg g a : Int) := by
    rw [← hg]
    show x = (degsOf g).getD a 0
    rw [List.getD_eq_getElem?_getD, hx]; rfl
  rw [this]
  exact h t
theorem sums_best {g k : Nat} {p : Nat × Nat} (hb : Best g k p) : (sumsL g (untiedOf g))[k]? = some (sumOf g p : Int) := by
  unfold sumsL
  rw [List.getElem?_map, hb.1]; rfl
theorem sums_best_le {g k : Nat} {p : Nat × Nat} (hb : Best g k p) : ∀ x ∈ sumsL g (untiedOf g), x ≤ (sumOf g p : Int) := by
  intro x hx
  obtain ⟨q, hq, rfl⟩ := List.mem_map.mp hx
  have := hb.2.2.1 q hq
  omega
theorem sums_best_lt {g k : Nat} {p : Nat × Nat} (hb : Best g k p) : ∀ j, j < k → ∀ x, (sumsL g (untiedOf g))[j]? = some x → x ≠ (sumOf g p : Int) := by
  intro j hj x hx
  unfold sumsL at hx
  rw [List.getElem?_map] at hx
  cases q : (untiedOf g)[j]? with
  | none => rw [q] at hx; cases hx
  | some r =>
    rw [q] at hx
    have e : (sumOf g r : Int) = x := Option.some.inj hx
    have := hb.2.2.2 j hj r q
    omega
theorem max_best (hh : A.handled = none) (F : Fr h₀ L s.heap m) (N : News h₀ L s.heap news) (hm : (D, listOf (List.toArray ys) n) ∈ news) (hI : IntsAre ys (sumsL g (untiedOf g))) (hb : Best g k p)
    (h : ∀ h' (t : Tok) tk, Fr h₀ L h' m → News h₀ L h' news → Q (.int (sumOf g p : Int) t) { s with heap := h', toks := tk }) : wpAny (model prog w) A (call (.builtin "max") [.ref D]) Q E s := by
  have hk := (List.getElem?_eq_some_iff.mp (sums_best hb))
  refine max_list_N hh F N ⟨_, (N _ hm).1, rfl, _, rfl⟩ hI (by obtain ⟨q, _⟩ := hk; omega) fun h' M t tk F' N' hM hall => ?_
  have h1 := hall _ (List.mem_of_getElem? (sums_best hb))
  have h2 := sums_best_le hb M hM
  have : M = (sumOf g p : Int) := by omega
  rw [this]
  exact h h' t tk F' N'
theorem index_best {t : Tok} (N : News h₀ L s.heap news) (hm : (D, listOf (List.toArray ys) n) ∈ news) (hI : IntsAre ys (sumsL g (untiedOf g))) (hb : Best g k p)
    (h : Q (.int (k : Int) s.toks) { s with toks := s.toks + 1 }) : wpAny (model prog w) A (call (.builtin "list.index") [.ref D, .int (sumOf g p : Int) t]) Q E s := by
  have ho := (N _ hm).1
  have hlen := hI.length
  obtain ⟨hk, hke⟩ := List.getElem?_eq_some_iff.mp (sums_best hb)
  have hk1 := hb.lt
  refine call_meets PySem.F.slot_list_index ⟨_, ho, rfl⟩ PySem.F.entry_list_index (PySem.F.args_list_index_2 _ _)
    (SeqAt.list_indexAt D ys.toArray n none #[] (.int (sumOf g p : Int) t) (isInt (sumOf g p : Int)) k (by simp; omega) (by omega) ?_ ?_) ⟨ho, fun y hy => (eq_isInt (sumOf g p : Int) t hI y (by simpa using hy)).at _ _, h⟩
  · show isInt _ ys[k] = true
    rw [isInt_at _ hI _ (by omega) hk, hke]
    simp
  · intro j hjs hlt
    show isInt _ ys[j] = false
    have hj' : j < ys.length := by simpa using hjs
    have hj2 : j < (sumsL g (untiedOf g)).length := by omega
    rw [isInt_at _ hI j hj' hj2]
    have := sums_best_lt hb j hlt _ (List.getElem?_eq_getElem hj2)
    simpa using this
/-- pair[0], pair[1] of a pair that lies in the base -/
theorem pair_item {a : Addr} {t u v : Tok} {nn i : Nat} {value slice : PySem.Expr} (F : Fr h₀ L s.heap m) (ha : h₀.get? a = some (pairOf p.1 p.2 t u nn)) (hi : i = 0 ∨ i = 1)
    (h : ∀ t', Q (.int (if i = 0 then (p.1 : Int) else (p.2 : Int)) t') s)
    (hs : subscripted slice false (.ref a) (.int (i : Int) v) = operate [.ref a, .int (i : Int) v] (getItem (.ref a) (.int (i : Int) v)) := by with_unfolding_all rfl) (hg : ∀ r, letTemporaryGo value (.ref a) r = pure () := by intro _; with_unfolding_all rfl) :
    wpAny (model prog w) A (subscriptTail value slice (.ref a) (.int (i : Int) v)) Q E s := by
  have hI : IntsAre [.int (p.1 : Int) t, .int (p.2 : Int) u] [(p.1 : Int), (p.2 : Int)] := .cons _ _ (.cons _ _ .nil)
  refine item_tuple_ints (vs := [.int (p.1 : Int) t, .int (p.2 : Int) u]) ⟨_, F.keep _ _ ha, rfl, _, rfl⟩ hI (by omega) (by show _ < ((2 : Nat) : Int); omega) (by omega) (fun t' => ?_) hs hg
  rcases hi with rfl | rfl
  · exact h t'
  · exact h t'
theorem pair_item0 {a : Addr} {t u v : Tok} {nn : Nat} {value slice : PySem.Expr} (F : Fr h₀ L s.heap m) (ha : h₀.get? a = some (pairOf p.1 p.2 t u nn)) (h : ∀ t', Q (.int (p.1 : Int) t') s)
    (hs : subscripted slice false (.ref a) (.int 0 v) = operate [.ref a, .int 0 v] (getItem (.ref a) (.int 0 v)) := by with_unfolding_all rfl) (hg : ∀ r, letTemporaryGo value (.ref a) r = pure () := by intro _; with_unfolding_all rfl) :
    wpAny (model prog w) A (subscriptTail value slice (.ref a) (.int 0 v)) Q E s := pair_item (i := 0) F ha (.inl rfl) h hs hg
theorem pair_item1 {a : Addr} {t u v : Tok} {nn : Nat} {value slice : PySem.Expr} (F : Fr h₀ L s.heap m) (ha : h₀.get? a = some (pairOf p.1 p.2 t u nn)) (h : ∀ t', Q (.int (p.2 : Int) t') s)
    (hs : subscripted slice false (.ref a) (.int 1 v) = operate [.ref a, .int 1 v] (getItem (.ref a) (.int 1 v)) := by with_unfolding_all rfl) (hg : ∀ r, letTemporaryGo value (.ref a) r = pure () := by intro _; with_unfolding_all rfl) :
    wpAny (model prog w) A (subscriptTail value slice (.ref a) (.int 1 v)) Q E s := pair_item (i := 1) F ha (.inr rfl) h hs hg
end
end

section
open PySem PySem.W PySem.Calls PyProof.Rows
set_option maxRecDepth 100000
set_option maxHeartbeats 4000000
noncomputable def StopB (P : Prop) : Prop := P
theorem isList_of {h₀ h : Heap} {L l : Addr} {m : Str → Option Value} {items : Array Value} (F : Fr h₀ L h m) (hl : h₀.IsList l items) : h.IsList l items := hl.at fun o e => F.keep l o e
theorem StopB.out {P : Prop} (h : StopB P) : P := h
noncomputable def BfJ (g : Nat) (tr : List (Nat × Nat)) (DL DM C : Addr) (i : Nat) (nx : List (Addr × Obj)) : Prop :=
  ∃ vsL kL wsM kM oc tl, nx = (DL, listOf (List.toArray vsL) kL) :: (DM, listOf (List.toArray wsM) kM) :: (C, oc) :: tl ∧ oc.data = .cell (some (.ref DM)) ∧ PairsIn tl vsL (untiedOf (netAt g (tr.take i))) ∧ IntsAre wsM (degsOf (netAt g (tr.take i))) ∧ OffAll [DL, DM, C] tl
noncomputable def SmI (g : Nat) (i : Nat) (ys : List Value) (_ : Nat) : Prop := IntsAre ys (sumsL g ((untiedOf g).take i))
theorem SmI.snoc {g i : Nat} {ys : List Value} {tk t k : Nat} {p : Nat × Nat} {x : Int} (H : SmI g i ys tk) (hp : (untiedOf g)[i]? = some p) (hx : x = (sumOf g p : Int)) : SmI g (i + 1) (ys ++ [.int x t]) k := by
  unfold SmI
  rw [List.take_add_one, hp, sumsL, List.map_append]
  subst hx
  exact IntsAre.append H (.cons _ _ .nil)
theorem SmI.all {g tk : Nat} {ys : List Value} (h : SmI g (untiedOf g).length ys tk) : IntsAre ys (sumsL g (untiedOf g)) := by unfold SmI at h; rwa [List.take_length] at h
theorem bf_end {h₀ h9 : Heap} {L : Addr} {m m9 : Str → Option Value} {s : Shared} {g gi i k : Nat} {p : Nat × Nat} {tr : List (Nat × Nat)} {vsL WS : List Value} {X : List Int} {kL kM tk : Nat} {DL DM C I : Addr} {oc oI : Obj} {tl : List (Addr × Obj)} {Q : Flow → Shared → Prop} {st : List Str}
    (F9 : Fr h₀ L h9 m9) (N9 : News h₀ L h9 ((DL, listOf (List.toArray (vsL.eraseIdx k)) kL) :: (I, oI) :: (DM, listOf (List.toArray WS) kM) :: (C, oc) :: tl)) (e0 : @Ne Nat DL I) (e1 : @Ne Nat DM I) (e2 : @Ne Nat C I) (e3 : ∀ p ∈ tl, p.1 ≠ I)
    (hoc : oc.data = .cell (some (.ref DM))) (hP : PairsIn tl vsL (untiedOf gi)) (hO : OffAll [DL, DM, C] tl) (hI : IntsAre WS X) (hb : Best gi k p) (hX : X = degsOf (addE gi p.1 p.2)) (hnx : netAt g (tr.take (i + 1)) = addE gi p.1 p.2) (hS : Same st m m9) :
    LPost h₀ L s I oI (fun m' nx => Same st m m' ∧ BfJ g tr DL DM C (i + 1) nx) Q .next { s with heap := h9, toks := tk } := by
  subst hX
  refine ⟨h9, tk, m9, (DL, listOf (List.toArray (vsL.eraseIdx k)) kL) :: (DM, listOf (List.toArray WS) kM) :: (C, oc) :: tl, rfl, F9, fun q hq => ?_, fun q hq => ?_, hS, _, kL, WS, kM, oc, tl, rfl, hoc, ?_, ?_, hO⟩
  · rcases List.mem_cons.mp hq with rfl | hq
    · exact N9 _ (.tail _ (.head _))
    rcases List.mem_cons.mp hq with rfl | hq
    · exact N9 _ (.head _)
    · exact N9 _ (.tail _ (.tail _ hq))
  · rcases List.mem_cons.mp hq with rfl | hq
    · exact e0
    rcases List.mem_cons.mp hq with rfl | hq
    · exact e1
    rcases List.mem_cons.mp hq with rfl | hq
    · exact e2
    · exact e3 q hq
  · rw [hnx, ← untied_erase hb.1]
    exact hP.erase k
  · rw [hnx]; exact hI
theorem best_call {w : World} {mean : ExcName → Option Value} {mg mb : Str → Option Value} {base : Heap} {dp un : Nat} {gd : Option (List Code)} {fr : List Env} {s : Shared}
    {Q E : Value → Shared → Prop} {l l2 l3 : Addr} {vs vs2 vs3 : List Value} {g g' : Nat} {tr : List (Nat × Nat)}
    (H : Here w mean mg mb base dp un gd fr s.heap) (hd9 : dp + 50 < recursionLimit) (hu9 : un + 800 < cLine) (hl : s.heap.IsList l vs.toArray) (hg : IntsAre vs (rowsOf g)) (hl2 : s.heap.IsList l2 vs2.toArray) (hi2 : IntsAre vs2 (degsOf g))
    (hl3 : s.heap.IsList l3 vs3.toArray) (hp3 : PairsAt s.heap vs3 tr) (hTr : Trail g tr g')
    (ret : ∀ h' tk', (∀ b o, s.heap.get? b = some o → h'.get? b = some o) → Q (.bool true) { s with heap := h', toks := tk' }) :
    wpAny (model PR w) (AR dp un gd fr) (call (.ref 177) [.ref l, .ref l2, .ref l3]) Q E s := by
  obtain ⟨ns2, hns2⟩ : ∃ ns2, ns2 = degsOf g := ⟨_, rfl⟩
  rw [← hns2] at hi2
  have h6d : ns2.length = 6 := by rw [hns2]; rfl
  have H0 := H
  obtain ⟨X, T, B, hd, hu⟩ := H
  revert X; delta PR; k_fill; intro X
  k_with_none
  (k_with "exec Assign cons ListComp" => (k_here; refine StopB.out ?_))
  (k_with "exec Assign" => (k_here; (with_reducible show wpAny _ _ (exec (PySem.Stmt.Assign _ (PySem.Expr.ListComp _ _ _ _) _) _) _ _ _); refine StopB.out ?_))
  (k_with "call ref" => (k_here; (with_reducible show wpAny _ _ (call (Value.ref 153) _ _) _ _ _); ((rename Here _ _ _ _ _ _ _ _ _ _ => hereX); (rename Fr _ _ _ _ => F'); (rename News _ _ _ _ => N'); k_dflt (refine untied_at hereX (by omega) (by omega) F' N' rfl rfl (isList_of F' (by assumption)) (by assumption) ?_)); intro D' vs' n' h' tk' tl' F' N' noff' off' pin'; (try simp only [List.cons_append, List.nil_append] at N'); (try k_fold)))
  (k_with "storeName" => (dsimp only; walk_at "storeName"))
  (k_with "setItem ref int" => (dsimp only; walk_at "setItem ref int"))
  (k_with "newTuple" => (dsimp only; walk_at "newTuple"))
  (k_with "newList" => (dsimp only; walk_at "newList"))
  (k_with "subscriptTail Name Slice ref ref" => (k_here; (with_reducible show wpAny _ _ (subscriptTail _ (PySem.Expr.Slice none none none _) (Value.ref _) (Value.ref _)) _ _ _); k_dflt (refine' copy_ints ?Fx48 ?Nx48 ?lx48 ?ix48 ?kx48 ?zx48 ?_ ?sx48 ?tx48; (case Fx48 => k_asm); (case Nx48 => k_asm); (case lx48 => kmk_list); (case ix48 => with_reducible assumption); (case kx48 => assumption); (case zx48 => exact Nat.le_of_ble_eq_true rfl); (case sx48 => with_unfolding_all rfl); (case tx48 => kmk_pure)); intro D' ws' h' F' N' l1 hI'; (try k_lt l1); (try k_sweep)))
  (k_with "exec For Name Name cons nil" => (k_here; refine StopB.out ?_))
  (k_with "subscriptTail Name Name ref int" => (k_here; (with_reducible show wpAny _ _ (subscriptTail _ _ (Value.ref _) (Value.int _ _)) _ _ _); (rename News _ _ _ _ => N'); (k_dflt (refine deg_item N' (by k_mem) (by assumption) (by assumption) (by omega) ?_)); intro _))
  (k_with "call builtin:max" => (k_here; (rename Fr _ _ _ _ => F'); (rename News _ _ _ _ => N'); (rename Best _ _ _ => best9); (rename IntsAre _ (sumsL _ (untiedOf _)) => i9); (k_dflt (refine max_best rfl F' N' (by k_mem) i9 best9 ?_)); intro h' t' tk' F' N'; (try k_fold)))
  (k_with "call builtin:list.index" => (k_here; (rename News _ _ _ _ => N'); (rename Best _ _ _ => best9); (rename IntsAre _ (sumsL _ (untiedOf _)) => i9); (k_dflt (refine index_best N' (by k_mem) i9 best9 ?_)); (try k_fold)))
  (k_with "subscriptTail Name Call ref int" => (k_here; (rename News _ _ _ _ => N'); (rename PairsIn _ _ (untiedOf _) => P'); (rename Best _ _ _ => best9); ((obtain ⟨ta, tt9, tu9, tn9, hta, htm⟩ := P'.2 _ _ best9.1); k_dflt (refine item_led N' (by k_mem) (Best.lt best9) hta ?_))))
  (k_with "compareOp NotEq ref ref" => (k_here; (rename Fr _ _ _ _ => F'); (rename News _ _ _ _ => N'); (rename ((_, pairOf _ _ _ _ _) ∈ _) => htm9); (rename (Heap.get? _ _ = some (pairOf _ _ _ _ _)) => hb9); (k_dflt (refine ne_pair (N' _ (List.Mem.tail _ (List.Mem.tail _ (List.Mem.tail _ (List.Mem.tail _ (List.Mem.tail _ htm9)))))).1 (F'.keep _ _ hb9) (by dsimp only [AR, Around.deeper, Around.in1, Around.mark]; omega) ?_))))
  (k_with "call builtin:list.remove" => (k_here; (rename Fr _ _ _ _ => F'); (rename News _ _ _ _ => N'); (rename PairsIn _ _ (untiedOf _) => P'); (rename Best _ _ _ => best9); (rename (Heap.get? _ _ = some (pairOf _ _ _ _ _)) => hb9); ((have N9 := KStt.news_of N' (List.forall_mem_cons.mpr ⟨List.Mem.tail _ (List.Mem.tail _ (List.Mem.head _)), List.forall_mem_cons.mpr ⟨List.Mem.tail _ (List.Mem.head _), fun p hp => List.Mem.tail _ (List.Mem.tail _ (List.Mem.tail _ hp))⟩⟩)); k_dflt (refine remove_led F' N9 ?c2x55 P' (fun q hq => List.Mem.tail _ (List.Mem.tail _ (List.Mem.tail _ hq))) best9.1 (untied_nodup _) hb9 (by dsimp only [AR, Around.deeper, Around.in1, Around.mark]; omega) (pairs_len' P') ?_; (case c2x55 => k_all))); intro h' k' F' N'; (try k_fold)))
  (k_with "subscriptTail Name Constant ref int" => (k_here; (with_reducible show wpAny _ _ (subscriptTail _ _ (Value.ref _) (Value.int 0 _)) _ _ _); (rename Fr _ _ _ _ => F'); (rename (Heap.get? _ _ = some (pairOf _ _ _ _ _)) => hb9); (k_dflt (refine pair_item0 F' hb9 ?_)); intro _))
  (k_with "subscriptTail Name Constant ref int" => (k_here; (with_reducible show wpAny _ _ (subscriptTail _ _ (Value.ref _) (Value.int 1 _)) _ _ _); (rename Fr _ _ _ _ => F'); (rename (Heap.get? _ _ = some (pairOf _ _ _ _ _)) => hb9); (k_dflt (refine pair_item1 F' hb9 ?_)); intro _))
  refine enterC (binds := [(Str.ofString "rows", .ref l), (Str.ofString "start", .ref l2), (Str.ofString "trail", .ref l3)]) (args := ⟨[.ref l, .ref l2, .ref l3], []⟩) X T (by k_is) (by k_is) (by k_room) (BindsTo.of_eq rfl) rfl (by decide +kernel) ?_ rfl rfl rfl
  intro L h₁ tk₁ cells F N Y
  k_cells Y
  try simp only [List.cons_append, List.nil_append] at N
  try dsimp only
  have hl1 : h₁.IsList l vs.toArray := hl.at fun o e => F.keep l o e
  (try k_unmd)
  k_fold
  k_steps
  unfold StopB
  rename Fr _ _ _ _ => F1
  rename News _ _ _ _ => N1
  rename PairsIn _ _ _ => P1
  rename OffAll _ _ => O1
  rename IntsAre _ ns2 => I1
  rename (_ = Data.cell (some (Value.ref _))) => c1
  rename (∀ p ∈ _, Prod.fst p ≠ _) => no1
  have a1 : @Ne Nat _ _ := no1 _ (List.Mem.head _)
  have a2 : @Ne Nat _ _ := no1 _ (List.Mem.tail _ (List.Mem.head _))
  dsimp only at a1 a2
  rw [hns2] at I1
  have hlen3 := hp3.1
  refine For_vals2 [Str.ofString "sums"] (BfJ g tr _ _ _) rfl rfl F1 N1 hl3 (fun _ => rfl) rfl rfl ?hev ⟨_, _, _, _, _, _, rfl, c1, P1, I1, O1⟩ ?turn ?done
  case hev =>
    k_unmd
    try k_fold
    k_steps
  case done =>
    rintro um nx h tk ⟨vsL, kL, wsM, kM, oc, tl, rfl, hoc, hP, hI, hO⟩ F N
    clear F1 N1
    dsimp only
    k_unmd
    try k_fold
    k_steps
    exact ret _ _ F.keep
  case turn =>
    rintro i v um nx h tk I oI hi hv ⟨vsL, kL, wsM, kM, oc, tl, rfl, hoc, hP, hI, hO⟩ F N off
    have hit : i < tr.length := by omega
    obtain ⟨p, hpi⟩ : ∃ p, tr[i]? = some p := ⟨_, List.getElem?_eq_getElem hit⟩
    obtain ⟨v', hv', b, t, u, nn, rfl, hb₀⟩ := hp3.2 i p hpi
    rw [hv] at hv'
    cases hv'
    obtain ⟨k, hb⟩ := best_at hTr i p hpi
    have hnx := netAt_next (g := g) hpi
    generalize netAt g (tr.take i) = gi at hP hI hb hnx
    obtain ⟨ds, hds⟩ : ∃ ds, ds = degsOf gi := ⟨_, rfl⟩
    rw [← hds] at hI
    have hd6 : ds.length = 6 := by rw [hds]; rfl
    have hbd := hb.bds
    clear F1 N1 P1 O1 I1 c1 hv
    have e0 : @Ne Nat _ _ := off _ (List.Mem.head _)
    have e1 : @Ne Nat _ _ := off _ (List.Mem.tail _ (List.Mem.head _))
    have e2 : @Ne Nat _ _ := off _ (List.Mem.tail _ (List.Mem.tail _ (List.Mem.head _)))
    dsimp only at e0 e1 e2
    dsimp only
    k_unmd
    try k_fold
    k_steps
    unfold StopB
    refine' Assign_pairs (SmI gi) F N rfl (by with_unfolding_all rfl) rfl rfl rfl (.tail _ (.head _)) (hP.mono fun p hp => .tail _ (.tail _ (.tail _ (.tail _ hp)))) ?g1 (by with_unfolding_all rfl) ?g3 rfl ?g4 rfl rfl (by decide) (fun _ => rfl) (fun _ _ _ _ _ h => h) ?g5 ?g6 ?g7
    case g1 => rw [hP.1]; exact Nat.le_trans (untied_len _) (by rw [sizeLine_eq]; decide)
    case g3 => decide
    case g4 => decide
    case g5 =>
      k_unmd
      try k_fold
      k_steps
      · exact F
      · exact N
      · exact IntsAre.nil
    case g6 =>
      intro i2 p2 t2 u2 I2 oI2 C2 oC2 D2 ys2 m2 h2 tk2 E' hp2 hV2 hoC hm0 hm1 F₁ N₁
      have hu2 := untied_lt (List.mem_of_getElem? hp2)
      clear F N
      k_unmd
      try k_fold
      k_steps
      · rename Fr _ _ _ _ => F9
        exact F9
      · rename News _ _ _ _ => N9
        exact N9
      · exact hV2.snoc hp2 (by show _ = ((deg _ _ + deg _ _ : Nat) : Int); omega)
    case g7 =>
      intro D2 ys2 h2 tk2 hV2 F₁ N₁ nlt
      have hS := SmI.all hV2
      have hb6 := hb.2.1
      have hbB := hb
      have hPB := hP
      have hbb := hb₀
      clear F N hV2
      dsimp only
      k_unmd
      try k_fold
      k_steps
      rename Fr _ _ _ _ => F9
      rename News _ _ _ _ => N9
      have hup := untied_lt (List.mem_of_getElem? hb.1)
      refine bf_end F9 N9 e0 e1 e2 (fun p hp => off p (List.Mem.tail _ (List.Mem.tail _ (List.Mem.tail _ hp)))) hoc hP hO (by assumption) hb ?_ hnx ?_
      · rw [hds]
        exact degs_add hup.1 hup.2.1 hup.2.2
      · intro z hz
        simp only [List.contains_cons, List.contains_nil, Bool.or_false, Bool.or_eq_false_iff, beq_eq_false_iff_ne, ne_eq] at hz
        simp [hz.1, hz.2, stB]
end

section
open PySem PySem.W PySem.Calls PyProof.Rows
set_option maxRecDepth 100000
set_option maxHeartbeats 8000000

noncomputable def Stop (P : Prop) : Prop := P
theorem Stop.out {P : Prop} (h : Stop P) : P := h

noncomputable abbrev clP (g : Nat) (tn : Tok) (DP DT : Addr) : List (Str × Value) := [(Str.ofString "pairs", .ref DP), (Str.ofString "trail", .ref DT), (Str.ofString "number", .int (numN g : Nat) tn)]
noncomputable def ClJ (g : Nat) (DP DT C : Addr) (n : Nat) (m' : Str → Option Value) (nx : List (Addr × Obj)) : Prop :=
  ∃ g' tr tn vsP vsT kP kT oc cv tl, nx = (DT, listOf (List.toArray vsT) kT) :: (DP, listOf (List.toArray vsP) kP) :: (C, oc) :: tl ∧ oc.data = .cell cv ∧ PairsIn tl vsP (untiedOf g') ∧ PairsIn tl vsT tr ∧ OffAll [DT, DP, C] tl ∧
    Trail g tr g' ∧ n = 36 - degSum g' ∧ (∀ p ∈ clP g' tn DP DT, m' p.1 = some p.2)
theorem cl_start {g : Nat} {DP DT C : Addr} {m : Str → Option Value} {tn : Tok} {vsP : List Value} {kP : Nat} {oc : Obj} {cv : Option Value} {tl : List (Addr × Obj)} (hoc : oc.data = .cell cv) (hP : PairsIn tl vsP (untiedOf g)) (hO : OffAll [DT, DP, C] tl)
    (hps : ∀ p ∈ clP g tn DP DT, m p.1 = some p.2) : ClJ g DP DT C (36 - degSum g) m ((DT, listOf #[] 0) :: (DP, listOf (List.toArray vsP) kP) :: (C, oc) :: tl) :=
  ⟨g, [], tn, vsP, [], kP, 0, oc, cv, tl, rfl, hoc, hP, PairsIn.nil, hO, .nil, rfl, hps⟩
theorem off_more {D : Addr} {bad : List Addr} : ∀ {tl : List (Addr × Obj)}, OffAll bad tl → AllLt D tl → OffAll (D :: bad) tl
  | [], _, _ => fun _ h => nomatch h
  | q :: r, h, l => by
    intro p hp hb
    rcases List.mem_cons.mp hb with hb | hb
    · rcases List.mem_cons.mp hp with rfl | hp
      · exact absurd l.1 (by rw [hb]; exact Nat.lt_irrefl _)
      · exact off_more (fun p hp => h p (List.mem_cons_of_mem _ hp)) l.2 p hp (List.mem_cons.mpr (.inl hb))
    · exact h p hp hb
theorem execs_cons_lb {M : Model} {A : Around} {E : Value → Shared → Prop} {s : Shared} {env : Env} {st : Stmt} {rest : List Stmt} {Q : Flow → Shared → Prop} {n : Nat} (hn : TkLB n s.toks)
    (h : wpAny M A (exec st env) (fun f s' => TkLB n s'.toks → match f with | .next => wpAny M A (execs rest env) Q E s' | f => Q f s') E s) : wpAny M A (execs (st :: rest) env) Q E s :=
  wpAny_execs_cons (wpAny_with_toks hn (wpAny_mono h (fun _ _ x => x) fun _ _ x _ => x))
noncomputable def SumI (g : Nat) (i : Nat) (ys : List Value) (tk : Nat) : Prop := IntsAre ys (sumsL g ((untiedOf g).take i)) ∧ ∀ x t, Value.int x t ∈ ys → 1 ≤ t ∧ t < tk
theorem SumI.mono {g : Nat} (i : Nat) (ys : List Value) (t t' : Nat) (h : t ≤ t') (H : SumI g i ys t) : SumI g i ys t' := ⟨H.1, fun x u hu => ⟨(H.2 x u hu).1, Nat.lt_of_lt_of_le (H.2 x u hu).2 h⟩⟩
theorem SumI.snoc {g i : Nat} {ys : List Value} {tk t k : Nat} {p : Nat × Nat} {x : Int} (H : SumI g i ys tk) (hp : (untiedOf g)[i]? = some p) (hx : x = (sumOf g p : Int)) (h1 : 1 ≤ t) (h2 : t < k) (h3 : tk ≤ k) : SumI g (i + 1) (ys ++ [.int x t]) k := by
  refine ⟨?_, fun y u hu => ?_⟩
  · rw [List.take_add_one, hp, sumsL, List.map_append]
    subst hx
    exact H.1.append (.cons _ _ .nil)
  · rcases List.mem_append.mp hu with hu | hu
    · exact (SumI.mono _ _ _ _ h3 H).2 y u hu
    · have e := List.mem_singleton.mp hu
      cases e
      exact ⟨h1, h2⟩
theorem SumI.all {g tk : Nat} {ys : List Value} (h : SumI g (untiedOf g).length ys tk) : IntsAre ys (sumsL g (untiedOf g)) := by have q := h.1; rwa [List.take_length] at q
noncomputable abbrev sumIof {g : Nat} {tl : List (Addr × Obj)} {vs : List Value} (_ : PairsIn tl vs (untiedOf g)) : Nat → List Value → Nat → Prop := SumI g
theorem SumI.zero {g tk : Nat} : SumI g 0 [] tk := ⟨.nil, fun _ _ h => nomatch h⟩

theorem sums_at {g i : Nat} {n : Int} (h : (sumsL g (untiedOf g))[i]? = some n) : 0 ≤ n ∧ n ≤ 12 := by
  unfold sumsL at h
  rw [List.getElem?_map] at h
  cases q : (untiedOf g)[i]? with
  | none => rw [q] at h; cases h
  | some p =>
    rw [q] at h
    have e : (sumOf g p : Int) = n := Option.some.inj h
    have h1 := deg_le6 g p.1
    have h2 := deg_le6 g p.2
    unfold sumOf at e
    omega
noncomputable def TxI (ns : List Int) (i : Nat) (ys : List Value) (_ : Nat) : Prop := StrsAre ys ((ns.take i).map lineOf)
theorem TxI.snoc {ns : List Int} {i : Nat} {ys : List Value} {tk t k : Nat} {n : Int} (H : TxI ns i ys tk) (hn : ns[i]? = some n) : TxI ns (i + 1) (ys ++ [.str (lineOf n) t]) k := by
  unfold TxI
  rw [List.take_add_one, hn, List.map_append]
  exact StrsAre.append' H (.cons _ _ .nil)
theorem TxI.all {vs : List Value} {ns : List Int} {ys : List Value} {tk : Nat} (h : IntsAre vs ns) (H : TxI ns vs.length ys tk) : StrsAre ys (ns.map lineOf) := by
  unfold TxI at H
  rwa [h.length, List.take_length] at H
noncomputable abbrev txiOf {vs : List Value} {ns : List Int} (_ : IntsAre vs ns) : Nat → List Value → Nat → Prop := TxI ns
theorem cl_next {h₀ h9 : Heap} {L : Addr} {m9 : Str → Option Value} {s : Shared} {g g' k : Nat} {p : Nat × Nat} {tr : List (Nat × Nat)} {vsP vsT : List Value} {kP kT tk : Nat} {T' DT DP C : Addr} {oc : Obj} {cv : Option Value} {tl : List (Addr × Obj)} {t u tn : Tok} {Q : Flow → Shared → Prop} {X : Int}
    (F9 : Fr h₀ L h9 m9) (N9 : News h₀ L h9 ((T', { cls := .type "tuple", data := .seq #[.int (p.1 : Int) t, .int (p.2 : Int) u] }) :: (DT, listOf (List.toArray (vsT ++ [.ref T'])) kT) :: (DP, listOf (List.toArray (vsP.eraseIdx k)) kP) :: (C, oc) :: tl))
    (hoc : oc.data = .cell cv) (hP : PairsIn tl vsP (untiedOf g')) (hT : PairsIn tl vsT tr) (hO : OffAll [DT, DP, C] tl) (l1 : DT < T' ∧ DP < T' ∧ C < T' ∧ AllLt T' tl) (hTr : Trail g tr g') (hb : Best g' k p)
    (hX : X = (numN g' : Int) + (1 * 2 ^ (4 * (p.1 : Int)).toNat + 1 * 2 ^ (4 * (p.2 : Int)).toNat)) (h1 : m9 (Str.ofString "pairs") = some (.ref DP)) (h2 : m9 (Str.ofString "trail") = some (.ref DT)) (h3 : m9 (Str.ofString "number") = some (.int X tn)) :
    WPost h₀ L s (ClJ g DP DT C) (36 - degSum g') Q .next { s with heap := h9, toks := tk } := by
  have hs := degSum_step hb.step
  have hl := degSum_le (addE g' p.1 p.2)
  have hsub : ∀ q ∈ tl, q ∈ (T', pairOf p.1 p.2 t u 0) :: tl := fun q hq => List.mem_cons_of_mem _ hq
  refine ⟨h9, tk, m9, (DT, listOf (List.toArray (vsT ++ [.ref T'])) kT) :: (DP, listOf (List.toArray (vsP.eraseIdx k)) kP) :: (C, oc) :: (T', pairOf p.1 p.2 t u 0) :: tl, 36 - degSum (addE g' p.1 p.2), rfl, F9, fun q hq => ?_, by omega,
    addE g' p.1 p.2, tr ++ [p], tn, _, _, kP, kT, oc, cv, (T', pairOf p.1 p.2 t u 0) :: tl, rfl, hoc, ?_, ?_, ?_, .snoc hTr hb, rfl, ?_⟩
  · rcases List.mem_cons.mp hq with rfl | hq
    · exact N9 _ (.tail _ (.head _))
    rcases List.mem_cons.mp hq with rfl | hq
    · exact N9 _ (.tail _ (.tail _ (.head _)))
    rcases List.mem_cons.mp hq with rfl | hq
    · exact N9 _ (.tail _ (.tail _ (.tail _ (.head _))))
    rcases List.mem_cons.mp hq with rfl | hq
    · exact N9 _ (.head _)
    · exact N9 _ (.tail _ (.tail _ (.tail _ (.tail _ hq))))
  · rw [← untied_erase hb.1]
    exact (hP.mono hsub).erase k
  · exact (hT.mono hsub).snoc (List.Mem.head _)
  · intro q hq hbad
    rcases List.mem_cons.mp hq with rfl | hq
    · simp only [List.mem_cons, List.not_mem_nil, or_false] at hbad
      rcases hbad with e | e | e
      · exact absurd l1.1 (by rw [e]; exact Nat.lt_irrefl _)
      · exact absurd l1.2.1 (by rw [e]; exact Nat.lt_irrefl _)
      · exact absurd l1.2.2.1 (by rw [e]; exact Nat.lt_irrefl _)
    · exact hO q hq hbad
  · intro q hq
    simp only [clP, List.mem_cons, List.not_mem_nil, or_false] at hq
    rcases hq with rfl | rfl | rfl
    · exact h1
    · exact h2
    · rw [h3, hX, num_best hb]

theorem closed_call {w : World} {mean : ExcName → Option Value} {mg mb : Str → Option Value} {base : Heap} {dp un : Nat} {gd : Option (List Code)} {fr : List Env} {s : Shared}
    {Q E : Value → Shared → Prop} {l : Addr} {vs : List Value} {g : Nat}
    (H : Here w mean mg mb base dp un gd fr s.heap) (hd9 : dp + 50 < recursionLimit) (hu9 : un + 800 < cLine) (hl : s.heap.IsList l vs.toArray) (hg : IntsAre vs (rowsOf g))
    (ret : ∀ (T' DP DT : Addr) (g' : Nat) (tr : List (Nat × Nat)) (wb : Array UInt8) (tw : Tok) (vsP vsT : List Value) (kP kT : Nat) (tl : List (Addr × Obj)) h' tk', Trail g tr g' → Closed g' → KBw.bInts wb = wordL g' → (∀ b o, s.heap.get? b = some o → h'.get? b = some o) →
      NewObjs s.heap h' ((T', { cls := .type "tuple", data := .seq #[.bytes wb tw, .ref DP, .ref DT] }) :: (DT, listOf (List.toArray vsT) kT) :: (DP, listOf (List.toArray vsP) kP) :: tl) → PairsIn tl vsP (untiedOf g') → PairsIn tl vsT tr → Q (.ref T') { s with heap := h', toks := tk' }) :
    wpAny (model PR w) (AR dp un gd fr) (call (.ref 165) [.ref l]) Q E s := by
  obtain ⟨ns, hns⟩ : ∃ ns, ns = rowsOf g := ⟨_, rfl⟩
  have hi : IntsAre vs ns := hns ▸ hg
  have h6 : ns.length = 6 := hns ▸ rfl
  have hb : ∀ x ∈ ns, 0 ≤ x ∧ x < 64 := hns ▸ rowsOf_mem g
  have H0 := H
  obtain ⟨X, T, B, hd, hu⟩ := H
  revert X; delta PR; k_fill; intro X
  k_with_none
  (k_with "binaryOp Add bytes bytes" => (k_here; (refine word_add (by assumption) (by assumption) (by assumption) ?_); intro tb' k' v' hv'))
  (k_with "exec While Constant cons nil" => (k_here; refine Stop.out ?_))
  (k_with "exec While" => (k_here; refine Stop.out ?_))
  (k_with "eval ListComp" => (k_here; refine Stop.out ?_))
  (k_with "exec Assign cons ListComp" => (k_here; refine Stop.out ?_))
  (k_with "exec Assign" => (k_here; (with_reducible show wpAny _ _ (exec (PySem.Stmt.Assign _ (PySem.Expr.ListComp _ _ _ _) _) _) _ _ _); refine Stop.out ?_))
  (k_with "call ref" => (k_here; (with_reducible show wpAny _ _ (call (Value.ref 70) _ _) _ _ _); ((rename Here _ _ _ _ _ _ _ _ _ _ => hereX); (rename Fr _ _ _ _ => F'); (rename News _ _ _ _ => N'); k_dflt (refine int2ap_at hereX (by omega) (by omega) F' N' rfl rfl (by assumption) ?_)); intro b' t' h' tk' ks' hb' he' hl' F' N'; (try k_fold)))
  (k_with "call ref" => (k_here; (with_reducible show wpAny _ _ (call (Value.ref 153) _ _) _ _ _); ((rename Here _ _ _ _ _ _ _ _ _ _ => hereX); (rename Fr _ _ _ _ => F'); (rename News _ _ _ _ => N'); k_dflt (refine untied_at hereX (by omega) (by omega) F' N' rfl rfl (by assumption) (by assumption) ?_)); intro D' vs' n' h' tk' tl' F' N' noff' off' pin'; (try simp only [List.cons_append, List.nil_append] at N'); (try k_fold)))
  (k_with "storeName" => (dsimp only; walk_at "storeName"))
  (k_with "setItem ref int" => (dsimp only; walk_at "setItem ref int"))
  (k_with "newTuple" => (dsimp only; walk_at "newTuple"))
  (k_with "newList" => (dsimp only; walk_at "newList"))
  (k_with "subscriptTail" => (k_here; (with_reducible show wpAny _ _ (subscriptTail _ _ (Value.bytes _ _) (Value.int _ _)) _ _ _); (k_dflt (refine word_item (by assumption) (by omega) ?_)); intro tw' kw' hw'; (try dsimp only at hw')))
  (k_with "execs cons" => (k_here; (rename TkLB _ _ => lbX); k_dflt (refine execs_cons_lb lbX ?_); (try dsimp only)))
  (k_with "call builtin:str.join" => (k_here; (rename News _ _ _ _ => N'); (rename StrsAre _ _ => S'); (k_dflt (refine runs_join N' (.head _) S' ?_)); intro X' t' k' hX'; (obtain ⟨hm6, hm7⟩ := mod6' hX'); (have hXl := text_len hX')))
  (k_with "call ref" => (k_here; (with_reducible show wpAny _ _ (call (Value.ref 132) _ _) _ _ _); (rename Here _ _ _ _ _ _ _ _ _ _ => hereX); (rename Fr _ _ _ _ => F'); (rename News _ _ _ _ => N'); (rename (KStt.codes _ = linesL _) => hX9); (k_dflt (refine ws_at hereX (by omega) (by omega) F' N' rfl rfl (text_ok _ hX9 (by omega) (by omega)).1 (text_ok _ hX9 (by omega) (by omega)).2 ?_)); intro x' dx' T' Tc' n' nt' b' count' tn' tt' tb' vs' z' k1' k2' k3' k4' k5' h' tk' hw9 hI9 hl9 hb9 hb9' F' N'; (have ld9 := lead_of hX9 (by assumption) hw9); (have hbk9 := ld9.b); (try simp only [wsLed, List.cons_append, List.nil_append] at N'); (try k_fold)))
  (k_with "call builtin:len" => (k_here; (with_reducible show wpAny _ _ (call (Value.builtin "len") [Value.ref _]) _ _ _); (rename News _ _ _ _ => N'); (rename PairsIn _ _ (untiedOf _) => P'); (k_dflt (refine pairs_len N' (by k_mem) P' ?_))))
  (k_with "call ref" => (k_here; (with_reducible show wpAny _ _ (call (Value.ref 101) _ _) _ _ _); (rename Here _ _ _ _ _ _ _ _ _ _ => hereX); (rename Fr _ _ _ _ => F'); (rename News _ _ _ _ => N'); (rename Lead _ _ _ _ _ => ld9); (k_dflt (refine indent_at hereX F' N' rfl rfl (by assumption) (by assumption) (by assumption) ld9.nt_le ld9.len ld9.mem ?_)); intro t' h' tk' F' N'; (try simp only [wsLed, List.cons_append, List.nil_append] at N'); (try k_fold)))
  (k_with "call ref" => (k_here; (with_reducible show wpAny _ _ (call (Value.ref 94) _ _) _ _ _); (rename Here _ _ _ _ _ _ _ _ _ _ => hereX); (rename Fr _ _ _ _ => F'); (rename News _ _ _ _ => N'); (rename Lead _ _ _ _ _ => ld9); ((have more9 := ld9.more (by assumption) (by omega)); k_dflt (refine longest_at hereX F' N' rfl rfl (by assumption) (by assumption) more9.1 (Nat.le_trans ld9.len (by decide)) ?_)); intro t' h' tk' hle9 F' N'; (rename TkLB _ _ => lb9); ((have tg9 := tokGe_of lb9 (by (try dsimp only); omega) hle9)); (try simp only [wsLed, List.cons_append, List.nil_append] at N'); (try k_fold)))
  (k_with "call ref" => (k_here; (with_reducible show wpAny _ _ (call (Value.ref 63) _ _) _ _ _); (rename Here _ _ _ _ _ _ _ _ _ _ => hereX); (rename Fr _ _ _ _ => F'); (rename News _ _ _ _ => N'); (rename Lead _ _ _ _ _ => ld9); (rename TokGe _ _ => tg9); (rename SumsOk _ _ _ => so9); ((have more9 := ld9.more (by assumption) (by omega)); (have tok9 := tok_ok so9.hvals so9.htks more9.2.2 tg9); (have hln9 := ld9.len); k_dflt (refine indexof_at hereX (by omega) (by omega) F' N' rfl rfl (by k_mem) so9.hvals more9.2.2 tok9.1 tok9.2 (small_of (by omega) (by omega)) ?_)); intro k' t' h' tk' hk1 hk2 F' N'; (obtain ⟨p', hp'⟩ := ld9.best more9.2.1 hk1 hk2); (obtain ⟨hbd1, hbd2⟩ := hp'.bds); (try k_fold)))
  (k_with "subscriptTail Name Name ref int" => (k_here; (with_reducible show wpAny _ _ (subscriptTail _ _ (Value.ref _) (Value.int _ _)) _ _ _); (rename News _ _ _ _ => N'); (rename PairsIn _ _ (untiedOf _) => P'); (rename Best _ _ _ => best9); ((obtain ⟨ta, tt9, tu9, tn9, hta, htm⟩ := P'.2 _ _ best9.1); k_dflt (refine item_led N' (by k_mem) (Best.lt best9) hta ?_))))
  (k_with "assign Tuple" => (k_here; (with_reducible show wpAny _ _ (assign (PySem.Expr.Tuple _ _ _) _ (Value.ref _)) _ _ _); (rename Fr _ _ _ _ => F'); (rename News _ _ _ _ => N'); (rename ((_, pairOf _ _ _ _ _) ∈ _) => htm9); ((have N9 := KStt.news_of N' (fun p hp => List.Mem.tail _ (List.Mem.tail _ (List.Mem.tail _ (List.Mem.tail _ (List.Mem.tail _ (List.Mem.tail _ hp))))))); k_dflt (refine assign_pair F' N9 (.tail _ (.tail _ (.tail _ htm9))) rfl rfl rfl rfl ?_)); intro h' tk' hle' F' N'; (try k_fold)))
  (k_with "call builtin:list.append" => (k_here; (rename Fr _ _ _ _ => F'); (rename News _ _ _ _ => N'); (rename Trail _ _ _ => tr9); (rename PairsIn _ _ _ => pt9); (k_dflt (refine append_led F' N' ?c1x81 ?c2x81 (trail_len tr9 (by assumption)) ?_; (case c1x81 => k_ne); (case c2x81 => k_all))); intro h' k' F' N'; (try k_fold)))
  (k_with "delItem ref int" => (k_here; (rename Fr _ _ _ _ => F'); (rename News _ _ _ _ => N'); (rename PairsIn _ _ (untiedOf _) => pp9); (rename Best _ _ _ => best9); (k_dflt (refine del_led F' N' ?c1x82 ?c2x82 ?c3x82 (pairs_len' pp9) (best_lt pp9 best9) ?_; (case c1x82 => k_ne); (case c2x82 => k_ne); (case c3x82 => k_all))); intro h' k' F' N'; (try k_fold)))
  refine enterC (binds := [(Str.ofString "rows", .ref l)]) (args := ⟨[.ref l], []⟩) X T (by k_is) (by k_is) (by k_room) (BindsTo.of_eq rfl) rfl (by decide +kernel) ?_ rfl rfl rfl
  intro L h₁ tk₁ cells F N Y
  k_cells Y
  try simp only [List.cons_append, List.nil_append] at N
  try dsimp only
  have hl1 : h₁.IsList l vs.toArray := hl.at fun o e => F.keep l o e
  (try k_unmd)
  k_fold
  (k_with "pyIter ref" => (k_of "i" => (k_state_short (fun pre number => number = numL (tiedTo g pre.length 0)) "number")))
  (k_with "pyIter ref" => (k_of "j" => (k_state (fun pre number => number = numL (tiedTo g kN.toNat pre.length)) "number")))
  (k_with "state" => first
    | exact num_0
    | exact num_in (by assumption) (by assumption)
    | exact num_out (by assumption) (by assumption)
    | exact num_tie hns (by assumption) (by assumption) (by omega) (by omega) (by assumption)
    | exact num_no hns (by assumption) (by assumption) (by omega) (by omega) (by assumption)
    | fail "state")
  k_steps
  unfold Stop
  rename Fr _ _ _ _ => F1
  rename News _ _ _ _ => N1
  rename OffAll _ _ => O1
  rename PairsIn _ _ _ => P1
  rename (_ = numL _) => e1
  rename (_ ∧ _) => l1
  rename (∀ p ∈ _, Prod.fst p ≠ _) => no1
  have a1 : @Ne Nat _ _ := Nat.ne_of_gt l1.1
  have a2 : @Ne Nat _ _ := Nat.ne_of_gt l1.2.1
  have a3 : @Ne Nat _ _ := no1 _ (List.Mem.head _)
  dsimp only at a3
  have e2 := (num_end e1).trans (numL_all g)
  subst e2
  have O2 : OffAll [_, _, _] _ := off_more O1 l1.2.2
  clear l1 no1 O1 e1
  refine While_ret (ClJ g _ _ _) F1 N1 (cl_start (by assumption) P1 O2 (by kst_all)) ?_
  clear F1 N1 P1 O2
  rintro n m₁ nx h tk F N ⟨g', tr, tn, vsP, vsT, kP, kT, oc, cv, tl, rfl, hoc, hP, hT, hO, hTr, rfl, hps⟩
  have F2 := kst_all0 hps F
  have hn6 := numN_lt g'
  clear F hps
  k_unmd
  try k_fold
  k_steps
  unfold Stop
  rename PairsIn _ _ (untiedOf _) => hP
  rename Fr _ _ _ _ => F
  rename News _ _ _ _ => N
  refine' Assign_pairs (sumIof hP) F N rfl (by with_unfolding_all rfl) rfl rfl rfl (.tail _ (.head _)) (hP.mono fun p hp => .tail _ (.tail _ (.tail _ hp))) ?c1 (by with_unfolding_all rfl) ?c3 rfl ?c4 rfl rfl (by decide) (fun _ => rfl) SumI.mono ?c5 ?c6 ?c7
  case c1 => rw [hP.1]; exact Nat.le_trans (untied_len _) (by rw [sizeLine_eq]; decide)
  case c3 => decide
  case c4 => decide
  case c5 =>
    k_unmd
    try k_fold
    k_steps
    · exact F
    · exact N
    · exact SumI.zero
  case c6 =>
    intro i p t u I oI C oC D ys m₂ h₁ tk E' hp hV hoC hm0 hm1 F₁ N₁
    have hu := untied_lt (List.mem_of_getElem? hp)
    clear F N
    k_unmd
    try k_fold
    k_steps
    · rename Fr _ _ _ _ => F9
      exact F9
    · rename News _ _ _ _ => N9
      exact N9
    · exact hV.snoc hp (by show _ = ((deg _ _ + deg _ _ : Nat) : Int); omega) (by omega) (by omega) (by omega)
  case c7 =>
    intro D ys h₁ tk hV F₁ N₁ nlt
    have hI := SumI.all hV
    have hT := hV.2
    have so9 : SumsOk _ ys tk := ⟨hI, hT⟩
    have lb : TkLB tk tk := Nat.le_refl _
    clear F N hV
    dsimp only
    k_unmd
    try k_fold
    k_steps
    unfold Stop
    rename IntsAre _ (sumsL _ _) => hI
    rename Fr _ _ _ _ => F
    rename News _ _ _ _ => N
    refine' ListComp_val (txiOf hI) F N rfl (.head _) ?c1 (by with_unfolding_all rfl) ?c3 rfl ?c4 rfl (fun _ => rfl) (fun _ _ _ _ _ h => h) ?c5 ?c6 ?c7
    case c1 => rw [hI.length]; unfold sumsL; rw [List.length_map]; exact Nat.le_trans (untied_len _) (by rw [sizeLine_eq]; decide)
    case c3 => decide
    case c4 => decide
    case c5 =>
      k_unmd
      try k_fold
      k_steps
      · exact F
      · exact N
      · exact StrsAre.nil
    case c6 =>
      intro i v I oI C oC D ys m₂ h₁ tk E' hv hV hoC hm0 F₁ N₁
      obtain ⟨n, t, rfl, hn⟩ := hI.at i v hv
      have hb9 := sums_at hn
      clear F N
      k_unmd
      try k_fold
      k_steps
      · rename Fr _ _ _ _ => F9
        exact F9
      · rename News _ _ _ _ => N9
        exact N9
      · exact hV.snoc hn
    case c7 =>
      intro D ys h₁ tk hV F₁ N₁ nlt
      have hS := hV.all hI
      clear F N hV
      dsimp only
      k_unmd
      try k_fold
      k_steps
      · rename Fr _ _ _ _ => F9
        rename News _ _ _ _ => N9
        rename Lead _ _ _ _ _ => ld9
        rename Trail _ _ _ => tr9
        rename PairsIn _ _ (untiedOf _) => pp9
        rename (KBw.bInts _ = wordL _) => hv9
        have hc9 := ld9.closed (by omega)
        exact ret _ _ _ _ _ _ _ _ _ _ _ _ _ _ tr9 hc9 hv9 F9.keep (newObjs_of N9 (List.forall_mem_cons.mpr ⟨.head _, List.forall_mem_cons.mpr ⟨.tail _ (.tail _ (.tail _ (.tail _ (.tail _ (.tail _ (.tail _ (.head _))))))), List.forall_mem_cons.mpr ⟨.tail _ (.tail _ (.tail _ (.tail _ (.tail _ (.tail _ (.tail _ (.tail _ (.head _)))))))), fun p hp => List.Mem.tail _ (List.Mem.tail _ (List.Mem.tail _ (List.Mem.tail _ (List.Mem.tail _ (List.Mem.tail _ (List.Mem.tail _ (List.Mem.tail _ (List.Mem.tail _ (List.Mem.tail _ hp)))))))))⟩⟩⟩)) pp9 (by assumption)
      · rename Fr _ _ _ _ => F9
        rename News _ _ _ _ => N9
        rename Trail _ _ _ => tr9
        rename PairsIn _ _ (untiedOf _) => pp9
        rename Best _ _ _ => best9
        rename OffAll _ _ => off9
        rename (_ ∧ _) => l9
        exact cl_next F9 N9 (by assumption) pp9 (by assumption) off9 l9 tr9 best9 rfl (by with_unfolding_all rfl) (by with_unfolding_all rfl) (by with_unfolding_all rfl)

end

section
open PySem PySem.W PySem.Calls PyProof.Rows
set_option maxRecDepth 100000
set_option maxHeartbeats 1000000
theorem net_state1 {e : List Int} {i : Nat} {x : Int} (h : e.length = 3) : (e.set i x).length = 3 := by rw [List.length_set]; exact h
theorem net_state0 : (∃ g, [(0:Int),0,0,0,0,0] = rowsOf g) ∧ [(0:Int),0,0,0,0,0].length = 6 := ⟨⟨0, by decide +kernel⟩, rfl⟩
theorem net_state2 {e : List Int} {i j : Int} (h : ∃ g, e = rowsOf g) (h0 : 0 ≤ j) (hj : j < i) (hi : i < 6) :
    (∃ g, (e.set i.toNat (Builtin.bitOr (e.getD i.toNat 0) (1 * 2 ^ j.toNat))).set j.toNat (Builtin.bitOr ((e.set i.toNat (Builtin.bitOr (e.getD i.toNat 0) (1 * 2 ^ j.toNat))).getD j.toNat 0) (1 * 2 ^ i.toNat)) = rowsOf g) ∧
    ((e.set i.toNat (Builtin.bitOr (e.getD i.toNat 0) (1 * 2 ^ j.toNat))).set j.toNat (Builtin.bitOr ((e.set i.toNat (Builtin.bitOr (e.getD i.toNat 0) (1 * 2 ^ j.toNat))).getD j.toNat 0) (1 * 2 ^ i.toNat))).length = 6 := by
  obtain ⟨g, rfl⟩ := h
  rw [rows_add h0 hj hi]
  exact ⟨⟨_, rfl⟩, rfl⟩
theorem net_call {w : World} {mean : ExcName → Option Value} {mg mb : Str → Option Value} {base : Heap} {dp un : Nat} {gd : Option (List Code)} {fr : List Env} {s : Shared}
    {Q E : Value → Shared → Prop} {l : Addr} {vs : List Value} {ns : List Int}
    (H : Here w mean mg mb base dp un gd fr s.heap) (hl : s.heap.IsList l vs.toArray) (hi : IntsAre vs ns) (h63 : ns.length ≤ 63)
    (ret : ∀ (g : Nat) l' vs' n h' tk', IntsAre vs' (rowsOf g) → (∀ b o, s.heap.get? b = some o → h'.get? b = some o) → h'.get? l' = some (listOf vs'.toArray n) → s.heap.get? l' = none → Q (.ref l') { s with heap := h', toks := tk' }) :
    wpAny (model PR w) (AR dp un gd fr) (call (.ref 143) [.ref l]) Q E s := by
  obtain ⟨X, T, B, hd, hu⟩ := H
  revert X; delta PR; k_fill; intro X
  k_with_none
  refine enter (binds := [(Str.ofString "script", .ref l)]) (args := ⟨[.ref l], []⟩) X T (by k_is) (by k_is) (by k_room) (BindsTo.of_eq rfl) (locs rfl) ?_ (by decide) rfl rfl rfl
  intro L h₁ tk₁ F N
  try dsimp only
  k_fold
  k_with_none
  (k_with "storeName" => (dsimp only; walk_at "storeName"))
  (k_with "setItem ref int" => (dsimp only; walk_at "setItem ref int"))
  (k_with "newTuple" => (dsimp only; walk_at "newTuple"))
  (k_with "newList" => (dsimp only; walk_at "newList"))
  (k_with "pyIter ref" => (k_of "k" => (k_state (fun pre sums => sums.length = 3) "sums"; (all_goals (try (have hm1 := PyProof.Rows.fmod_lo kN (n := 3) (by decide)))); (all_goals (try (have hm2 := PyProof.Rows.fmod_hi kN (n := 3) (by decide)))))))
  (k_with "pyIter ref" => (k_of "i" => (k_state_short (fun pre rows bits => (∃ g, rows = rowsOf g) ∧ rows.length = 6) "rows" "bits")))
  (k_with "pyIter ref" => (k_of "j" => (k_state (fun pre rows bits => (∃ g, rows = rowsOf g) ∧ rows.length = 6) "rows" "bits")))
  (k_with "state" => first
    | exact net_state1 (by assumption)
    | exact net_state0
    | exact And.intro (by assumption) (by assumption)
    | exact net_state2 (by assumption) (by omega) (by omega) (by omega)
    | fail "state")
  k_steps
  obtain ⟨g9, hg9⟩ := (by assumption : ∃ g, _ = rowsOf g)
  rw [hg9] at kFacts
  exact ret g9 _ _ _ _ _ kFacts kFr.keep (kNews _ (List.Mem.head _)).1 (kNews _ (List.Mem.head _)).2.2
end

section
open PySem PySem.W PySem.Calls PyProof.Rows
set_option maxRecDepth 100000
set_option maxHeartbeats 2000000

theorem joined_call {w : World} {mean : ExcName → Option Value} {mg mb : Str → Option Value} {base : Heap} {dp un : Nat} {gd : Option (List Code)} {fr : List Env} {s : Shared}
    {Q E : Value → Shared → Prop} {l : Addr} {vs : List Value} {g : Nat}
    (H : Here w mean mg mb base dp un gd fr s.heap) (hl : s.heap.IsList l vs.toArray) (hp : PairsAt s.heap vs (untiedOf g))
    (ret : ∀ l' vs' n h' tk', IntsAre vs' (rowsOf g) → (∀ b o, s.heap.get? b = some o → h'.get? b = some o) → h'.get? l' = some (listOf vs'.toArray n) → s.heap.get? l' = none → Q (.ref l') { s with heap := h', toks := tk' }) :
    wpAny (model PR w) (AR dp un gd fr) (call (.ref 182) [.ref l]) Q E s := by
  obtain ⟨X, T, B, hd, hu⟩ := H
  revert X; delta PR; k_fill; intro X
  k_with_none
  (k_with "storeName" => (dsimp only; walk_at "storeName"))
  (k_with "setItem ref int" => (dsimp only; walk_at "setItem ref int"))
  refine enter (binds := [(Str.ofString "pairs", .ref l)]) (args := ⟨[.ref l], []⟩) X T (by k_is) (by k_is) (by k_room) (BindsTo.of_eq rfl) (locs rfl) ?_ (by decide) rfl rfl rfl
  intro L h₁ tk₁ F N
  try dsimp only
  k_fold
  k_steps
  rename_i D h9 tk9 F9 N9 o9
  refine For_pairs2 [] (fun i nx => ∃ vs' n, nx = [(D, listOf (vs' : List Value).toArray n)] ∧ IntsAre vs' (rowsOf (((untiedOf g).take i).foldl delE 32767))) rfl rfl F9 N9 hl hp (fun _ => rfl) rfl rfl rfl ?hev ?hj ?turn ?done
  case hev => exact nameX_L F9 rfl ⟨rfl, _, rfl⟩
  case hj =>
    refine ⟨_, _, rfl, ?_⟩
    have e : rowsOf (((untiedOf g).take 0).foldl delE 32767) = [62, 61, 59, 55, 47, 31] := by
      show rowsOf 32767 = _
      decide +kernel
    rw [e]
    exact .cons _ _ (.cons _ _ (.cons _ _ (.cons _ _ (.cons _ _ (.cons _ _ .nil)))))
  case turn =>
    rintro i p t u um nx h tk I oI hpi ⟨vs', n, rfl, hI⟩ F N off
    have hu := untied_lt (List.mem_of_getElem? hpi)
    have he := joined_mid hpi
    have h6 : (rowsOf (((untiedOf g).take i).foldl delE 32767)).length = 6 := rfl
    have hDI : @Ne Nat D I := off _ (List.Mem.head _)
    have hlt1 := hu.1
    have hlt2 := hu.2.1
    have htk : ((untiedOf g).take (i + 1)).foldl delE 32767 = delE (((untiedOf g).take i).foldl delE 32767) (p.1, p.2) := by
      rw [List.take_add_one, hpi, Option.toList_some, List.foldl_append]; rfl
    clear off F9 N9 hpi hu
    (try dsimp only)
    (try k_unmd)
    (try k_fold)
    k_steps
    rename Fr _ _ _ _ => F8
    rename News _ _ _ _ => N8
    rename IntsAre _ _ => I8
    rw [rows_del hlt1 hlt2 he, ← htk] at I8
    refine ⟨_, _, _, [_], rfl, F8, N8, ?_, ?_, _, _, rfl, I8⟩
    · intro q hq
      rw [List.mem_singleton.mp hq]; exact hDI
    · intro z hz
      simp only [List.contains_cons, List.contains_nil, Bool.or_false, Bool.or_eq_false_iff, beq_eq_false_iff_ne, ne_eq] at hz
      simp [hz.1, hz.2, stB]
  case done =>
    rintro um nx h tk ⟨vs', n, rfl, hI⟩ F N
    rw [List.take_length, joined_all] at hI
    clear F9 N9
    (try dsimp only)
    (try k_unmd)
    (try k_fold)
    k_steps
    exact ret D vs' n _ _ hI F.keep (N _ (List.Mem.head _)).1 (N _ (List.Mem.head _)).2.2
end

section
open PySem PySem.W PySem.Calls PyProof.Rows
set_option maxRecDepth 100000
set_option maxHeartbeats 2000000

noncomputable def SwI (gT : Nat) (rows much : List Int) (more : Bool) (P : Prop) : Prop := ∃ g', Reach gT g' ∧ rows = rowsOf g' ∧ much = degsOf g' ∧ (more = false → g' = gT ∧ P) ∧ (more = true → degSum gT < degSum g')

theorem sw_w0 {g : Nat} {a b : List Int} (h1 : a = rowsOf g) (h2 : b = degsOf g) : ∃ g', Reach g g' ∧ a = rowsOf g' ∧ b = degsOf g' ∧ (true = false → Closed g') := ⟨g, .refl, h1, h2, nofun⟩
theorem sw_i0 {gT : Nat} {a b : List Int} (h1 : a = rowsOf gT) (h2 : b = degsOf gT) : SwI gT a b false (∀ i ∈ ([] : List Int), ∀ j, ¬ Step gT i.toNat j) := ⟨gT, .refl, h1, h2, fun _ => ⟨rfl, nofun⟩, nofun⟩
theorem sw_j0 {gT : Nat} {a b : List Int} {more : Bool} {P : Prop} {k : Int} (h : SwI gT a b more P) : SwI gT a b more (P ∧ ∀ j ∈ ([] : List Int), ¬ Step gT k.toNat j.toNat) := by
  obtain ⟨g', h1, h2, h3, h4, h5⟩ := h
  exact ⟨g', h1, h2, h3, fun e => ⟨(h4 e).1, (h4 e).2, nofun⟩, h5⟩
theorem getD_deg {g : Nat} {i : Int} (h0 : 0 ≤ i) (h6 : i < 6) : (degsOf g).getD i.toNat 0 = (deg g i.toNat : Int) := six_get _ h0 h6
theorem sw_same {gT gJ : Nat} {a b : List Int} {more : Bool} {P : Prop} {k j : Int} {pre : List Int} (h1 : Reach gT gJ) (h2 : a = rowsOf gJ) (h3 : b = degsOf gJ) (h4 : more = false → gJ = gT ∧ P ∧ ∀ j ∈ pre, ¬ Step gT k.toNat j.toNat) (h5 : more = true → degSum gT < degSum gJ)
    (hn : ¬ Step gJ k.toNat j.toNat) : SwI gT a b more (P ∧ ∀ x ∈ pre ++ [j], ¬ Step gT k.toNat x.toNat) :=
  ⟨gJ, h1, h2, h3, fun e => ⟨(h4 e).1, (h4 e).2.1, forall_snoc (h4 e).2.2 ((h4 e).1 ▸ hn)⟩, h5⟩
theorem sw_tied {gT gJ : Nat} {a b : List Int} {more : Bool} {P : Prop} {k j : Int} {pre : List Int} (h1 : Reach gT gJ) (h2 : a = rowsOf gJ) (h3 : b = degsOf gJ) (h4 : more = false → gJ = gT ∧ P ∧ ∀ j ∈ pre, ¬ Step gT k.toNat j.toNat) (h5 : more = true → degSum gT < degSum gJ)
    (h0 : 0 ≤ j) (hj : j < k) (hk : k < 6) (he : Builtin.bitAnd ((a.getD k.toNat 0).fdiv (2 ^ j.toNat)) 1 ≠ 0) : SwI gT a b more (P ∧ ∀ x ∈ pre ++ [j], ¬ Step gT k.toNat x.toNat) := by
  refine sw_same h1 h2 h3 h4 h5 fun hs => ?_
  rw [h2, rows_bit h0 (by omega) (by omega) hk, hs.2.2.1] at he
  exact he rfl
theorem sw_low {gT gJ : Nat} {a b : List Int} {more : Bool} {P : Prop} {k j : Int} {pre : List Int} (h1 : Reach gT gJ) (h2 : a = rowsOf gJ) (h3 : b = degsOf gJ) (h4 : more = false → gJ = gT ∧ P ∧ ∀ j ∈ pre, ¬ Step gT k.toNat j.toNat) (h5 : more = true → degSum gT < degSum gJ)
    (h0 : 0 ≤ j) (hj : j < k) (hk : k < 6) (hs : b.getD k.toNat 0 + b.getD j.toNat 0 < 6) : SwI gT a b more (P ∧ ∀ x ∈ pre ++ [j], ¬ Step gT k.toNat x.toNat) := by
  refine sw_same h1 h2 h3 h4 h5 fun q => ?_
  rw [h3, getD_deg (by omega) hk, getD_deg h0 (by omega)] at hs
  have := q.2.2.2
  omega
theorem sw_add {gT gJ : Nat} {a b : List Int} {P : Prop} {k j : Int} (h1 : Reach gT gJ) (h2 : a = rowsOf gJ) (h3 : b = degsOf gJ)
    (h0 : 0 ≤ j) (hj : j < k) (hk : k < 6) (he : Builtin.bitAnd ((a.getD k.toNat 0).fdiv (2 ^ j.toNat)) 1 = 0) (hs : 6 ≤ b.getD k.toNat 0 + b.getD j.toNat 0) (hm : degSum gT ≤ degSum gJ) :
    SwI gT ((a.set k.toNat (Builtin.bitOr (a.getD k.toNat 0) (1 * 2 ^ j.toNat))).set j.toNat (Builtin.bitOr ((a.set k.toNat (Builtin.bitOr (a.getD k.toNat 0) (1 * 2 ^ j.toNat))).getD j.toNat 0) (1 * 2 ^ k.toNat)))
      ((b.set k.toNat (b.getD k.toNat 0 + 1)).set j.toNat ((b.set k.toNat (b.getD k.toNat 0 + 1)).getD j.toNat 0 + 1)) true P := by
  subst h2 h3
  rw [getD_deg (by omega) hk, getD_deg h0 (by omega)] at hs
  rw [rows_bit h0 (by omega) (by omega) hk] at he
  have he' : edge gJ k.toNat j.toNat = false := by
    cases q : edge gJ k.toNat j.toNat
    · rfl
    · rw [q] at he; exact absurd he (by decide)
  have st : Step gJ k.toNat j.toNat := ⟨by omega, by omega, he', by omega⟩
  refine ⟨addE gJ k.toNat j.toNat, .step h1 st, rows_add h0 hj hk, ?_, nofun, fun _ => Nat.lt_of_le_of_lt hm (degSum_step st)⟩
  have := degs_add st.1 st.2.1 he'
  simp only [Int.toNat_natCast] at this
  exact this
theorem reach_le {g g' : Nat} (h : Reach g g') : degSum g ≤ degSum g' := by
  induction h with
  | refl => exact Nat.le_refl _
  | step _ hs ih => exact Nat.le_trans ih (Nat.le_of_lt (degSum_step hs))
theorem sw_i1 {gT : Nat} {a b : List Int} {more : Bool} {pre : List Int} {k : Int} (hk : 0 ≤ k) (h : SwI gT a b more ((∀ i ∈ pre, ∀ j, ¬ Step gT i.toNat j) ∧ ∀ j ∈ rangeKs 0 (k - 0).toNat, ¬ Step gT k.toNat j.toNat)) :
    SwI gT a b more (∀ i ∈ pre ++ [k], ∀ j, ¬ Step gT i.toNat j) := by
  obtain ⟨g', h1, h2, h3, h4, h5⟩ := h
  refine ⟨g', h1, h2, h3, fun e => ⟨(h4 e).1, forall_snoc (h4 e).2.1 fun j hs => ?_⟩, h5⟩
  exact (h4 e).2.2 (j : Int) (mem_rk (by omega) (by have := hs.1; omega)) (by simpa using hs)
theorem sw_w1 {g gT : Nat} {a b : List Int} {more : Bool} (hT : Reach g gT) (h : SwI gT a b more (∀ i ∈ rangeKs 0 (6 - 0 : Int).toNat, ∀ j, ¬ Step gT i.toNat j)) : ∃ g', Reach g g' ∧ a = rowsOf g' ∧ b = degsOf g' ∧ (more = false → Closed g') := by
  obtain ⟨g', h1, h2, h3, h4, h5⟩ := h
  refine ⟨g', ?_, h2, h3, fun e i j hs => ?_⟩
  · clear h2 h3 h4 h5
    induction h1 with
    | refl => exact hT
    | step _ hs ih => exact .step ih hs
  · obtain ⟨rfl, q⟩ := h4 e
    exact q (i : Int) (mem_rk (by omega) (by have := hs.2.1; omega)) j (by simpa using hs)
theorem sw_m {gT : Nat} {a b bT : List Int} {more moreT : Bool} {P : Prop} (hT : bT = degsOf gT) (hm : moreT = true) (h : SwI gT a b more P) : (2 * (36 - b.sum) + (if more = true then 1 else 0)).toNat < (2 * (36 - bT.sum) + (if moreT = true then 1 else 0)).toNat := by
  obtain ⟨g', h1, h2, h3, h4, h5⟩ := h
  subst h3 hT hm
  rw [degs_sum, degs_sum]
  have l1 := degSum_le g'
  have l2 := degSum_le gT
  cases more with
  | true => have := h5 rfl; simp; omega
  | false => obtain ⟨rfl, _⟩ := h4 rfl; simp; omega
theorem len_of_rows {ns : List Int} {g : Nat} (h : ns = rowsOf g) : ns.length = 6 := by rw [h]; rfl
theorem len_of_degs {ns : List Int} {g : Nat} (h : ns = degsOf g) : ns.length = 6 := by rw [h]; rfl
theorem swept_call {w : World} {mean : ExcName → Option Value} {mg mb : Str → Option Value} {base : Heap} {dp un : Nat} {gd : Option (List Code)} {fr : List Env} {s : Shared}
    {Q E : Value → Shared → Prop} {l l2 : Addr} {vs vs2 : List Value} {g : Nat}
    (H : Here w mean mg mb base dp un gd fr s.heap) (hl : s.heap.IsList l vs.toArray) (hi : IntsAre vs (rowsOf g)) (hl2 : s.heap.IsList l2 vs2.toArray) (hi2 : IntsAre vs2 (degsOf g))
    (ret : ∀ (g' : Nat) t l1' l2' vs1 n1 vs2 n2 h' tk', Reach g g' → Closed g' → (∀ b o, s.heap.get? b = some o → h'.get? b = some o) →
      h'.get? t = some { cls := .type "tuple", data := .seq #[.ref l1', .ref l2'] } → h'.get? l1' = some (listOf (List.toArray vs1) n1) → h'.get? l2' = some (listOf (List.toArray vs2) n2) →
      s.heap.get? t = none → s.heap.get? l1' = none → s.heap.get? l2' = none → IntsAre vs1 (rowsOf g') → IntsAre vs2 (degsOf g') → Q (.ref t) { s with heap := h', toks := tk' }) :
    wpAny (model PR w) (AR dp un gd fr) (call (.ref 172) [.ref l, .ref l2]) Q E s := by
  obtain ⟨X, T, B, hd, hu⟩ := H
  revert X; delta PR; k_fill; intro X
  k_with_none
  (k_with "storeName" => (dsimp only; walk_at "storeName"))
  (k_with "setItem ref int" => (dsimp only; walk_at "setItem ref int"))
  (k_with "subscriptTail Name Slice ref ref" => (k_here; (with_reducible show wpAny _ _ (subscriptTail _ (PySem.Expr.Slice none none none _) (Value.ref _) (Value.ref _)) _ _ _); k_dflt (refine' copy_ints ?Fx95 ?Nx95 ?lx95 ?ix95 ?kx95 ?zx95 ?_ ?sx95 ?tx95; (case Fx95 => k_asm); (case Nx95 => k_asm); (case lx95 => kmk_list); (case ix95 => with_reducible assumption); (case kx95 => assumption); (case zx95 => exact Nat.le_of_ble_eq_true rfl); (case sx95 => with_unfolding_all rfl); (case tx95 => kmk_pure)); intro D' ws' h' F' N' l1 hI'; (try k_lt l1); (try k_sweep)))
  (k_with "subscriptTail Name Slice ref ref" => (k_here; (with_reducible show wpAny _ _ (subscriptTail _ (PySem.Expr.Slice none none none _) (Value.ref _) (Value.ref _)) _ _ _); k_dflt (refine' copy_ints ?Fx96 ?Nx96 ?lx96 ?ix96 ?kx96 ?zx96 ?_ ?sx96 ?tx96; (case Fx96 => k_asm); (case Nx96 => k_asm); (case lx96 => kmk_list); (case ix96 => with_reducible assumption); (case kx96 => assumption); (case zx96 => exact Nat.le_of_ble_eq_true rfl); (case sx96 => with_unfolding_all rfl); (case tx96 => kmk_pure)); intro D' ws' h' F' N' l1 hI'; (try k_lt l1); (try k_sweep)))
  refine enter (binds := [(Str.ofString "rows", .ref l), (Str.ofString "start", .ref l2)]) (args := ⟨[.ref l, .ref l2], []⟩) X T (by k_is) (by k_is) (by k_room) (BindsTo.of_eq rfl) (locs rfl) ?_ (by decide) rfl rfl rfl
  intro L h₁ tk₁ F N
  obtain ⟨ns, hns⟩ : ∃ ns, ns = rowsOf g := ⟨_, rfl⟩
  rw [← hns] at hi
  have h6g : ns.length = 6 := by rw [hns]; rfl
  obtain ⟨ns2, hns2⟩ : ∃ ns2, ns2 = degsOf g := ⟨_, rfl⟩
  rw [← hns2] at hi2
  have h6d : ns2.length = 6 := by rw [hns2]; rfl
  try dsimp only
  k_unmd
  k_fold
  (k_with "exec While" => (k_while (fun _ rows much more => ∃ g', Reach g g' ∧ rows = rowsOf g' ∧ much = degsOf g' ∧ (more = false → Closed g')) (fun _ _ much more => (2 * (36 - much.sum) + (if more = true then 1 else 0)).toNat) "rows" "much" "more"; (obtain ⟨gT, hT1, hT2, hT3, hT4⟩ := kInv); (have h6r := len_of_rows hT2); (have h6m := len_of_degs hT3)))
  (k_with "pyIter ref" => (k_of "i" => (k_state_short (fun pre rows much more => SwI gT rows much more (∀ i ∈ pre, ∀ j, ¬ Step gT i.toNat j)) "rows" "much" "more")))
  (k_with "pyIter ref" => (k_of "j" => (k_state (fun pre rows much more => SwI gT rows much more ((∀ i ∈ kPre, ∀ j, ¬ Step gT i.toNat j) ∧ ∀ j ∈ pre, ¬ Step gT kN.toNat j.toNat)) "rows" "much" "more"; (unfold SwI at kInv); (obtain ⟨gJ, hJ1, hJ2, hJ3, hJ4, hJ5⟩ := kInv); (have h6r' := len_of_rows hJ2); (have h6m' := len_of_degs hJ3); (have hJ6 := reach_le hJ1))))
  (k_with "measure" => exact sw_m hT3 (by assumption) (by assumption))
  (k_with "state" => first
    | exact sw_w0 hns hns2
    | exact sw_i0 hT2 hT3
    | exact sw_j0 (by assumption)
    | exact sw_add hJ1 hJ2 hJ3 (by omega) (by omega) (by omega) (by assumption) (by omega) hJ6
    | exact sw_tied hJ1 hJ2 hJ3 hJ4 hJ5 (by omega) (by omega) (by omega) (by assumption)
    | exact sw_low hJ1 hJ2 hJ3 hJ4 hJ5 (by omega) (by omega) (by omega) (by omega)
    | exact sw_i1 (by omega) (by assumption)
    | exact sw_w1 hT1 (by assumption)
    | fail "state")
  k_steps
  show Q _ _
  rename News _ _ _ _ => N9
  rename Fr _ _ _ _ => F9
  exact ret gT _ _ _ _ _ _ _ _ _ hT1 (hT4 (by assumption)) F9.keep (N9 _ (List.Mem.head _)).1 (N9 _ (List.Mem.tail _ (List.Mem.tail _ (List.Mem.head _)))).1 (N9 _ (List.Mem.tail _ (List.Mem.head _))).1
    (N9 _ (List.Mem.head _)).2.2 (N9 _ (List.Mem.tail _ (List.Mem.tail _ (List.Mem.head _)))).2.2 (N9 _ (List.Mem.tail _ (List.Mem.head _))).2.2 (by rw [← hT2]; assumption) (by rw [← hT3]; assumption)
end

section
open PySem PySem.W PySem.Calls PyProof.Rows PyProof.Rows.LCg
set_option maxRecDepth 100000

section
variable {M : Model} {A : Around} {E : Value → Shared → Prop} {s : Shared}
theorem newEnvCell {scope : Scope} {globals : Addr} {qual : Str} {env : Env} {x : Str} {Q : Env → Shared → Prop}
    (hcf : ∀ n, cellsFrom n scope.names [] = [(x, n)]) (hpc : ∀ h, pushCells h scope.names = h.push { cls := .type "cell", data := .cell none })
    (hQ : Q { scope := scope, locals := s.heap.objs.size, globals := globals, cells := [(x, s.heap.objs.size + 1)], qual := qual, func := none, code := env.code, frame := env.frame, builtins := env.builtins }
      { s with heap := (s.heap.push { cls := .type "dict", data := .dict #[] }).push { cls := .type "cell", data := .cell none } }) :
    wpAny M A (newFunctionEnv scope globals [] [] qual none .none (some env)) Q E s := by
  simp only [newFunctionEnv, Option.isSome_some, if_true]
  refine wpAny_bind (wpAny_alloc ?_)
  refine wpAny_bind (wpAny_layCells _ (fun name kind cells => by cases kind == NameKind.cell <;> simp) _ _ _ _ ?_)
  rw [hcf, hpc]
  rw [show ({ s with heap := s.heap.push { cls := .type "dict", data := .dict #[] } } : Shared).heap.objs.size = s.heap.objs.size + 1 from Heap.size_push ..]
  refine wpAny_bind ?_
  rw [List.forIn_nil]
  exact wpAny_pure (wpAny_pure hQ)
end

section
variable {prog : Program} {w : World} {A : Around} {E : Value → Shared → Prop} {s : Shared} {h₀ : Heap} {L : Addr} {m : Str → Option Value} {env : Env}

theorem lookup_relabel_cell {env : Env} : ∀ {names : List (Str × NameKind)} {x : Str}, names.lookup x = some .cell →
    (names.map fun (n, k) => if (k == NameKind.free && env.scope.kind == .function && env.kindOf n == some .cell) then (n, NameKind.cell) else (n, k)).lookup x = some .cell
  | [], _, h => by simp at h
  | (n, k) :: r, x, h => by
    have ih := @lookup_relabel_cell env r x
    show List.lookup x ((if (k == NameKind.free && env.scope.kind == .function && env.kindOf n == some .cell) = true then (n, NameKind.cell) else (n, k)) :: _) = _
    cases hx : x == n with
    | true =>
      simp only [List.lookup_cons, hx] at h
      cases h
      simp [List.lookup_cons, hx]
    | false =>
      simp only [List.lookup_cons, hx] at h
      by_cases hc : (k == NameKind.free && env.scope.kind == .function && env.kindOf n == some .cell) = true
      · rw [if_pos hc]; simp only [List.lookup_cons, hx]; exact ih h
      · rw [if_neg hc]; simp only [List.lookup_cons, hx]; exact ih h

theorem ListComp_cell {elt iter : Expr} {x : Str} {px : Pos} {scope : Scope} {pos : Pos} {Q : Value → Shared → Prop} {ax : Addr} {its : List Value} (Inv : Nat → List Value → Prop) (_F₀ : Fr h₀ L s.heap m)
    (hh : A.handled = none) (hl₀ : h₀.IsList ax its.toArray) (hsz : its.length ≤ sizeLine)
    (hclos : closureFor scope env = pure []) (hkind : scope.kind = .function)
    (hnames : ∀ y ∈ scope.names, y.2 = .local → scope.names.lookup y.1 = some .local) (hx : scope.names.lookup x = some .cell)
    (hcf : ∀ n, cellsFrom n scope.names [] = [(x, n)]) (hpc : ∀ h, pushCells h scope.names = h.push { cls := .type "cell", data := .cell none })
    (hs : ∀ x, foldedSetIterable iter env x = pure x) (hInv0 : Inv 0 [])
    (h : wpAny (model prog w) A (eval iter env) (fun xv s₁ => ∃ h₁ tk₁, xv = .ref ax ∧ s₁ = { s with heap := h₁, toks := tk₁ } ∧ Fr h₀ L h₁ m) E s)
    (hTurn : ∀ i v I oI K oK C oC D ys h₁ tk (E' : Value → Shared → Prop), its[i]? = some v → Inv i ys → oK.data = .cell (some v) → Fr h₀ L h₁ m → News h₀ L h₁ [(I, oI), (K, oK), (C, oC), (D, lst ys)] →
      wpAny (model prog w) A (eval elt (compEnvC scope [(x, K)] C env)) (fun y s₂ => ∃ h' tk', s₂ = { s with heap := h', toks := tk' } ∧ Fr h₀ L h' m ∧ News h₀ L h' [(I, oI), (K, oK), (C, oC), (D, lst ys)] ∧ Inv (i + 1) (ys ++ [y])) E' { s with heap := h₁, toks := tk })
    (hFin : ∀ D ys h₁ tk, Inv its.length ys → Fr h₀ L h₁ m → News h₀ L h₁ [(D, lst ys)] → Q (.ref D) { s with heap := h₁, toks := tk }) :
    wpAny (model prog w) A (eval (.ListComp elt [⟨.Name x px, iter, [], 0⟩] scope pos) env) Q E s := by
  rw [eval_ListComp]
  refine wpAny_comprehension_free (use := none) rfl hs hclos hkind hnames (wpAny_mono h (fun xv s₁ q => ?_) fun _ _ e => e)
  obtain ⟨h₁, tk₁, rfl, rfl, F⟩ := q
  have hl : h₁.IsList ax its.toArray := by obtain ⟨o, e, r⟩ := hl₀; exact ⟨o, F.keep _ _ e, r⟩
  refine wpAny_pyIter_list hl ?_
  generalize hI : ({ s with heap := h₁, toks := tk₁ } : Shared).heap.objs.size = I
  have hI' : h₁.objs.size = I := hI
  dsimp only
  generalize hH1 : h₁.push { cls := .type "list_iterator", data := .fields #[.ref ax, .int 0 0] } = H1
  have hIt1 : H1.IsListIter I ax 0 := by rw [← hH1, ← hI']; exact ⟨_, Heap.get?_push_size _ rfl, rfl, rfl⟩
  have up1 : ∀ b o, h₁.get? b = some o → H1.get? b = some o := fun b o e => hH1 ▸ Heap.get?_push_of_some _ e
  have F1 : Fr h₀ L H1 m := F.keeps up1
  have hI0 : h₀.get? I = none := hI' ▸ next_is_new F
  have hIL : L ≠ I := hI' ▸ Nat.ne_of_lt F.ns.lt
  have hIsz : I < H1.objs.size := by rw [← hH1, Heap.size_push, hI']; exact Nat.lt_succ_self _
  have hax : ax < h₁.objs.size := by obtain ⟨_, e, _⟩ := hl; exact Heap.lt_size e
  refine wpAny_newObj_type (newEnvCell hcf hpc ?_)
  dsimp only
  generalize hH2 : H1.push { cls := .type "list", dict := none, data := .seq ([] : List Value).toArray } = H2
  generalize hC' : H2.objs.size = C
  generalize hH3 : (H2.push { cls := .type "dict", data := .dict #[] }).push { cls := .type "cell", data := .cell none } = H3
  generalize hD' : H1.objs.size = D
  have hC : C = D + 1 := by rw [← hC', ← hH2, Heap.size_push, hD']
  have hDC : D ≠ C := by rw [hC]; exact Nat.ne_of_lt (Nat.lt_succ_self _)
  have old : ∀ b o, H1.get? b = some o → H3.get? b = some o := fun b o e => hH3 ▸ Heap.get?_push_of_some _ (Heap.get?_push_of_some _ (hH2 ▸ Heap.get?_push_of_some _ e))
  have hacc : H3.get? D = some (lst []) := hH3 ▸ Heap.get?_push_of_some _ (Heap.get?_push_of_some _ (hH2 ▸ hD' ▸ Heap.get?_push_size _ rfl))
  have hnsC : H3.Ns C fun _ => none := by
    rw [← hH3, ← hC']
    exact (Heap.Ns.new H2 (.type "dict")).keeps fun b o e => Heap.get?_push_of_some _ e
  have hK3 : H3.IsCell (C + 1) none := by
    rw [← hH3, ← hC', ← Heap.size_push (h := H2) (o := { cls := .type "dict", data := .dict #[] })]
    exact ⟨_, Heap.get?_push_size _ rfl, rfl⟩
  have fresh₀ : ∀ a, D ≤ a → h₀.get? a = none := fun a ha => by
    cases e : h₀.get? a with
    | none => rfl
    | some o' => exact absurd (hD' ▸ Heap.lt_size (F1.keep a o' e)) (Nat.not_lt.mpr ha)
  have hD₀ : h₀.get? D = none := fresh₀ _ (Nat.le_refl _)
  have hC₀ : h₀.get? C = none := fresh₀ _ (by rw [hC]; exact Nat.le_succ _)
  have hK₀ : h₀.get? (C + 1) = none := fresh₀ _ (by rw [hC]; exact Nat.le_succ_of_le (Nat.le_succ _))
  have hLlt : L < D := hD' ▸ F1.ns.lt
  have hIlt : I < D := hD' ▸ hIsz
  have hDL : D ≠ L := Ne.symm (Nat.ne_of_lt hLlt)
  have hCL : C ≠ L := by intro e; rw [hC] at e; rw [← e] at hLlt; exact Nat.lt_irrefl _ (Nat.lt_of_succ_lt hLlt)
  have hKL : C + 1 ≠ L := by intro e; rw [hC] at e; rw [← e] at hLlt; exact Nat.lt_irrefl _ (Nat.lt_of_succ_lt (Nat.lt_of_succ_lt hLlt))
  have hCI : I ≠ C := by intro e; rw [hC] at e; rw [e] at hIlt; exact Nat.lt_irrefl _ (Nat.lt_of_succ_lt hIlt)
  have hKI : I ≠ C + 1 := by intro e; rw [hC] at e; rw [e] at hIlt; exact Nat.lt_irrefl _ (Nat.lt_of_succ_lt (Nat.lt_of_succ_lt hIlt))
  have hDI : I ≠ D := Nat.ne_of_lt hIlt
  have hDK : D ≠ C + 1 := by rw [hC]; exact Nat.ne_of_lt (Nat.lt_succ_of_lt (Nat.lt_succ_self _))
  have hCK : C ≠ C + 1 := Nat.ne_of_lt (Nat.lt_succ_self _)
  generalize hKe : C + 1 = K at hK3 hK₀ hKL hKI hDK hCK ⊢
  have hxI : ax ≠ I := hI' ▸ Nat.ne_of_lt hax
  have loop : ∀ s₃ : Shared, s₃ = { s with heap := H3, toks := tk₁ } →
      codeAny (model prog w) A (.compLoop (.ListComp elt [⟨.Name x px, iter, [], 0⟩] scope pos) 0 (.ref I) (.ref D) (compEnvC scope [(x, K)] C env)) (compPost (model prog w) A E none Q (.ref D) C) s₃ := by
    rintro s₃ rfl
    refine codeAny_compLoop_tests (fun k s' => ∃ h' tk i ys c, s' = { s with heap := h', toks := tk } ∧ i ≤ its.length ∧ k = its.length + 1 - i ∧ ys.length = i ∧ h'.IsListIter I ax i ∧ Fr h₀ L h' m ∧ h'.Ns C (fun _ => none) ∧ h'.IsCell K c ∧ News h₀ L h' [(D, lst ys)] ∧ Inv i ys) ?_ (its.length + 1)
      ⟨H3, _, 0, [], none, rfl, Nat.zero_le _, rfl, rfl, ?_, F1.keeps old, hnsC, hK3, ?_, hInv0⟩
    · rintro k s' ⟨h', tk, i, ys, c, rfl, hi, rfl, hyl, hst, F', hn', hK', N', hV⟩
      have hl' : h'.IsList ax its.toArray := by obtain ⟨o, e, r⟩ := hl₀; exact ⟨o, F'.keep _ _ e, r⟩
      by_cases hlt : i < its.length
      · refine wpAny_pyNext_list_item hst hl' (x := its[i]) (by simp [hlt]) fun h₂ hit₂ hs₂ => ?_
        have F₂ : Fr h₀ L h₂ m := F'.change hs₂ (Ne.symm hIL) hI0
        have hK₂ : h₂.IsCell K c := by obtain ⟨o, e, r⟩ := hK'; exact ⟨o, hs₂.extBut _ o (Ne.symm hKI) e, r⟩
        have hkind' : (compEnvC scope [(x, K)] C env).scope.kind = .function := hkind
        refine wpAny_assign_Name (wpAny_storeName_cell hkind' (lookup_relabel_cell hx) (c := K) (by simp [compEnvC]) hK₂ fun h₃ hK₄ hs₃ => ?_)
        refine wpAny_tests_nil ?_
        simp only [if_true]
        have F₃ : Fr h₀ L h₃ m := F₂.change hs₃ hKL hK₀
        obtain ⟨oK, heK, hoK⟩ := hK₄
        have hn₃ : h₃.Ns C fun _ => none := hn'.at' fun o e => hs₃.extBut _ o hCK (hs₂.extBut _ o (Ne.symm hCI) e)
        obtain ⟨oC, heC, hoC⟩ := ns_obj hn₃
        have hit₃ : h₃.IsListIter I ax (i + 1) := by obtain ⟨o, e, r⟩ := hit₂; exact ⟨o, hs₃.extBut _ o hKI e, r⟩
        obtain ⟨oI, heI, hoI⟩ := hit₃
        have zD : h₃.get? D = some (lst ys) := hs₃.extBut _ _ hDK (hs₂.extBut _ _ (Ne.symm hDI) (N' (D, lst ys) (List.Mem.head _)).1)
        have N₃ : News h₀ L h₃ [(I, oI), (K, oK), (C, oC), (D, lst ys)] := fun p hp => by
          rcases List.mem_cons.mp hp with rfl | hp
          · exact ⟨heI, Ne.symm hIL, hI0⟩
          · rcases List.mem_cons.mp hp with rfl | hp
            · exact ⟨heK, hKL, hK₀⟩
            · rcases List.mem_cons.mp hp with rfl | hp
              · exact ⟨heC, hCL, hC₀⟩
              · rcases List.mem_cons.mp hp with rfl | hp
                · exact ⟨zD, hDL, hD₀⟩
                · cases hp
        refine wpAny_mono (hTurn i its[i] I oI K oK C oC D ys h₃ _ _ (by simp [hlt]) hV hoK F₃ N₃) (fun y s₄ q => ?_) fun _ _ e => e
        obtain ⟨h₄, tk₄, rfl, F₄, N₄, V₄⟩ := q
        have zI₄ := (N₄ (I, oI) (by simp)).1
        have zK₄ := (N₄ (K, oK) (by simp)).1
        have zC₄ := (N₄ (C, oC) (by simp)).1
        have zD₄ := (N₄ (D, lst ys) (by simp)).1
        refine append_at (hsz := by show ys.toArray.size ≤ sizeLine; rw [List.size_toArray, hyl]; exact Nat.le_trans hi hsz) zD₄ fun h₅ hs₅ hD₅ => ?_
        refine ⟨its.length + 1 - (i + 1), by omega, h₅, tk₄, i + 1, ys ++ [y], some its[i], rfl, hlt, rfl, by rw [List.length_append, List.length_singleton, hyl], ⟨oI, hs₅.extBut _ _ hDI zI₄, hoI⟩, F₄.change hs₅ hDL hD₀, hoC.ns (hs₅.extBut _ _ (Ne.symm hDC) zC₄), ⟨oK, hs₅.extBut _ _ (Ne.symm hDK) zK₄, hoK⟩, fun p hp => ?_, V₄⟩
        rcases List.mem_cons.mp hp with rfl | hp
        · exact ⟨hD₅.trans (congrArg some (lst_snoc ys y)), hDL, hD₀⟩
        · cases hp
      · obtain rfl : i = its.length := Nat.le_antisymm hi (Nat.not_lt.mp hlt)
        refine wpAny_pyNext_list_end hh hst hl' (by simp) fun h₂ he₂ => ?_
        have kI : ∀ b o, b ≠ I → h'.get? b = some o → h₂.get? b = some o := fun b o hb e => he₂ b o hb e
        have F₂ : Fr h₀ L h₂ m := ⟨F'.ns.at' fun o e => kI _ o hIL e, fun b o e => kI b o (fun q => by rw [q, hI0] at e; cases e) (F'.keep b o e), F'.above⟩
        refine ⟨_, hn'.at' fun o e => kI _ o (Ne.symm hCI) e, fun h₃ hs₃ => hFin D ys h₃ tk hV (F₂.change hs₃ hCL hC₀) fun p hp => ?_⟩
        rcases List.mem_cons.mp hp with rfl | hp
        · exact ⟨hs₃.extBut _ _ hDC (kI _ _ (Ne.symm hDI) (N' (D, lst ys) (List.Mem.head _)).1), hDL, hD₀⟩
        · cases hp
    · obtain ⟨o, e, r⟩ := hIt1
      exact ⟨o, old _ _ e, r⟩
    · intro p hp
      rcases List.mem_cons.mp hp with rfl | hp
      · exact ⟨hacc, hDL, hD₀⟩
      · cases hp
  refine codeAny_compStart_list (loop _ rfl) (wpAny_pyIter_listiter (l := ax) (i := 0) ?_ (loop _ rfl))
  obtain ⟨o, e, r⟩ := hIt1
  exact ⟨o, old _ _ e, r⟩
end
end

section
open PySem PySem.W PySem.Calls PyProof.Rows PyProof.Rows.LCg
set_option maxRecDepth 100000
set_option maxHeartbeats 2000000

noncomputable def sumBits (n : Int) : Int := ((rangeKs 0 (6 - 0 : Int).toNat).map fun k => Builtin.bitAnd (Int.fdiv n (2 ^ k.toNat)) 1).sum
theorem sumBits_row (g : Nat) {i : Nat} (hi : i < 6) : sumBits ((rowsOf g).getD i 0) = (deg g i : Int) := by
  have h : ∀ j : Nat, j < 6 → Builtin.bitAnd (Int.fdiv ((rowsOf g).getD i 0) (2 ^ ((j : Int)).toNat)) 1 = ((edge g i j).toNat : Int) := fun j hj => by
    have := rows_bit (g := g) (i := (i : Int)) (j := (j : Int)) (by omega) (by omega) (by omega) (by omega)
    simpa using this
  have e : (rangeKs 0 (6 - 0 : Int).toNat) = [((0 : Nat) : Int), ((1 : Nat) : Int), ((2 : Nat) : Int), ((3 : Nat) : Int), ((4 : Nat) : Int), ((5 : Nat) : Int)] := rfl
  unfold sumBits deg
  rw [e]
  simp only [List.map_cons, List.map_nil, List.sum_cons, List.sum_nil]
  rw [h 0 (by omega), h 1 (by omega), h 2 (by omega), h 3 (by omega), h 4 (by omega), h 5 (by omega)]
  omega
theorem sumBits_rows (g : Nat) : (rowsOf g).map sumBits = degsOf g := by
  have h := fun i (hi : i < 6) => sumBits_row g hi
  have h0 := h 0 (by omega); have h1 := h 1 (by omega); have h2 := h 2 (by omega); have h3 := h 3 (by omega); have h4 := h 4 (by omega); have h5 := h 5 (by omega)
  simp only [rowsOf, six, List.getD_cons_zero, List.getD_cons_succ] at h0 h1 h2 h3 h4 h5
  simp only [rowsOf, degsOf, six, List.map_cons, List.map_nil, h0, h1, h2, h3, h4, h5]
theorem deg_call {w : World} {mean : ExcName → Option Value} {mg mb : Str → Option Value} {base : Heap} {dp un : Nat} {gd : Option (List Code)} {fr : List Env} {s : Shared}
    {Q E : Value → Shared → Prop} {l : Addr} {vs : List Value} {g : Nat}
    (H : Here w mean mg mb base dp un gd fr s.heap) (hl : s.heap.IsList l vs.toArray) (hg : IntsAre vs (rowsOf g))
    (ret : ∀ l' vs' n h' tk', IntsAre vs' (degsOf g) → (∀ b o, s.heap.get? b = some o → h'.get? b = some o) → h'.get? l' = some (listOf vs'.toArray n) → s.heap.get? l' = none → Q (.ref l') { s with heap := h', toks := tk' }) :
    wpAny (model PR w) (AR dp un gd fr) (call (.ref 148) [.ref l]) Q E s := by
  obtain ⟨ns, hns⟩ : ∃ ns, ns = rowsOf g := ⟨_, rfl⟩
  have hi : IntsAre vs ns := hns ▸ hg
  have h6 : ns.length = 6 := hns ▸ rfl
  have hb : ∀ x ∈ ns, 0 ≤ x ∧ x < 64 := hns ▸ rowsOf_mem g
  have hd6 : ns.map sumBits = degsOf g := hns ▸ sumBits_rows g
  clear hns hg
  have h6v : vs.length = 6 := by rw [hi.length, h6]
  obtain ⟨X, T, B, hd, hu⟩ := H
  revert X; delta PR; k_fill; intro X
  k_with_none
  refine enter (binds := [(Str.ofString "rows", .ref l)]) (args := ⟨[.ref l], []⟩) X T (by k_is) (by k_is) (by k_room) (BindsTo.of_eq rfl) (locs rfl) ?_ (by decide) rfl rfl rfl
  intro L h₁ tk₁ F N
  try dsimp only
  k_fold
  k_steps
  (with_unfolding_all refine' ListComp_cell (L := L) (its := vs) (ax := l) (fun i ys => IntsAre ys ((ns.take i).map sumBits)) F (by rfl) hl ?c1 (by rfl) (by rfl) (by decide) (by rfl) (fun n => by rfl) (fun n => by rfl) (fun _ => rfl) ?c2 ?c3 ?c4 ?c5)
  case c1 =>
    rw [h6v]; decide
  case c2 => exact IntsAre.nil
  case c3 =>
    k_fold
    k_steps
    exact F
  case c4 =>
    intro i v I oI K oK C oC D ys h₂ tk₂ E' hv hI hK F₂ N₂
    obtain ⟨n, t, rfl, hn⟩ := hi.at i v hv
    have hnm : n ∈ ns := List.mem_of_getElem? hn
    have hn0 := (hb n hnm).1
    have hn64 := (hb n hnm).2
    have hlen : i < ns.length := (List.getElem?_eq_some_iff.mp hn).1
    have hInext : ∀ y, (∃ t, y = Value.int (sumBits n) t) → IntsAre (ys ++ [y]) ((ns.take (i + 1)).map sumBits) := by
      rintro y ⟨t, rfl⟩
      rw [List.take_add_one, hn, List.map_append]
      exact hI.append (.cons _ _ .nil)
    clear F N hI hv
    k_unmd
    k_fold
    k_steps
    · rename Fr _ _ _ _ => F9
      exact F9
    · rename News _ _ _ _ => N9
      exact fun p hp => N9 p (List.mem_cons_of_mem _ hp)
    · exact hInext _ ⟨_, rfl⟩
  case c5 =>
    intro D ys h₂ tk₂ hI F₂ N₂
    rw [h6v, ← h6, List.take_length, hd6] at hI
    clear F N
    show Q (.ref D) _
    exact ret D ys _ _ _ hI F₂.keep (N₂ _ (List.Mem.head _)).1 (N₂ _ (List.Mem.head _)).2.2
end

section
open PySem PySem.W PySem.Calls PyProof.Rows
set_option maxRecDepth 100000
section
variable {w : World} {mean : ExcName → Option Value} {mg mb : Str → Option Value} {base : Heap} {dp un : Nat} {gd : Option (List Code)} {fr : List Env} {s₀ s : Shared} {env : Env} {m : Str → Option Value} {Q E : Value → Shared → Prop} {news : List (Addr × Obj)}
  {l l2 l3 : Addr} {vs vs2 vs3 : List Value} {ns : List Int} {g g' : Nat} {tr : List (Nat × Nat)}
theorem net_at (H : Here w mean mg mb base dp un gd fr s₀.heap) (hd : dp + 21 < recursionLimit) (hu : un + 403 < cLine) (F : Fr s₀.heap env.locals s.heap m) (N : News s₀.heap env.locals s.heap news) (hk : env.scope.kind = .function) (hf : env.frame = some env.locals)
    (hl : s.heap.IsList l vs.toArray) (hi : IntsAre vs ns) (h63 : ns.length ≤ 63)
    (ret : ∀ (g : Nat) D vs' n h' tk', IntsAre vs' (rowsOf g) → Fr s₀.heap env.locals h' m → News s₀.heap env.locals h' ((D, listOf (List.toArray vs') n) :: news) → (∀ p ∈ news, p.1 ≠ D) → Q (.ref D) { s with heap := h', toks := tk' }) :
    wpAny (model PR w) ((AR dp un gd fr).deeper env) (call (.ref 143) [.ref l]) Q E s := by
  refine net_call (H.push hd hu F hk hf) hl hi h63 fun g D vs' n h' tk' hr kp h1 h2 => ?_
  have no : NewObjs s.heap h' [(D, listOf (List.toArray vs') n)] := fun p hp => by rw [List.mem_singleton.mp hp]; exact ⟨h1, h2⟩
  exact ret g D vs' n h' tk' hr (F.keeps kp) (no.news F N kp) fun p hp => no.off N p hp _ (List.Mem.head _)
theorem deg_at (H : Here w mean mg mb base dp un gd fr s₀.heap) (hd : dp + 21 < recursionLimit) (hu : un + 403 < cLine) (F : Fr s₀.heap env.locals s.heap m) (N : News s₀.heap env.locals s.heap news) (hk : env.scope.kind = .function) (hf : env.frame = some env.locals)
    (hl : s.heap.IsList l vs.toArray) (hi : IntsAre vs (rowsOf g))
    (ret : ∀ D vs' n h' tk', IntsAre vs' (degsOf g) → Fr s₀.heap env.locals h' m → News s₀.heap env.locals h' ((D, listOf (List.toArray vs') n) :: news) → (∀ p ∈ news, p.1 ≠ D) → Q (.ref D) { s with heap := h', toks := tk' }) :
    wpAny (model PR w) ((AR dp un gd fr).deeper env) (call (.ref 148) [.ref l]) Q E s := by
  refine deg_call (H.push hd hu F hk hf) hl hi fun D vs' n h' tk' hr kp h1 h2 => ?_
  have no : NewObjs s.heap h' [(D, listOf (List.toArray vs') n)] := fun p hp => by rw [List.mem_singleton.mp hp]; exact ⟨h1, h2⟩
  exact ret D vs' n h' tk' hr (F.keeps kp) (no.news F N kp) fun p hp => no.off N p hp _ (List.Mem.head _)
theorem closed_at (H : Here w mean mg mb base dp un gd fr s₀.heap) (hd : dp + 60 < recursionLimit) (hu : un + 900 < cLine) (F : Fr s₀.heap env.locals s.heap m) (N : News s₀.heap env.locals s.heap news) (hk : env.scope.kind = .function) (hf : env.frame = some env.locals)
    (hl : s.heap.IsList l vs.toArray) (hi : IntsAre vs (rowsOf g))
    (ret : ∀ (T' DP DT : Addr) (g' : Nat) (tr : List (Nat × Nat)) (wb : Array UInt8) (tw : Tok) (vsP vsT : List Value) (kP kT : Nat) (tl : List (Addr × Obj)) h' tk', Trail g tr g' → Closed g' → KBw.bInts wb = wordL g' → Fr s₀.heap env.locals h' m →
      News s₀.heap env.locals h' ((T', { cls := .type "tuple", data := .seq #[.bytes wb tw, .ref DP, .ref DT] }) :: (DT, listOf (List.toArray vsT) kT) :: (DP, listOf (List.toArray vsP) kP) :: (news ++ tl)) →
      (∀ p ∈ news, ∀ q ∈ (T', ({ cls := .type "tuple", data := .seq #[.bytes wb tw, .ref DP, .ref DT] } : Obj)) :: (DT, listOf (List.toArray vsT) kT) :: (DP, listOf (List.toArray vsP) kP) :: tl, p.1 ≠ q.1) → OffAll (news.map (·.1)) tl →
      PairsIn tl vsP (untiedOf g') → PairsIn tl vsT tr → Q (.ref T') { s with heap := h', toks := tk' }) :
    wpAny (model PR w) ((AR dp un gd fr).deeper env) (call (.ref 165) [.ref l]) Q E s := by
  refine closed_call (H.push (by omega) (by omega) F hk hf) (by show dp + 1 + 50 < _; omega) (by show un + 3 + 800 < _; omega) hl hi fun T' DP DT g' tr wb tw vsP vsT kP kT tl h' tk' h1 h2 h3 kp no h4 h5 => ?_
  have hN := no.news F N kp
  have hoff := no.off N
  refine ret T' DP DT g' tr wb tw vsP vsT kP kT tl h' tk' h1 h2 h3 (F.keeps kp) (fun p hp => hN p ?_) hoff (fun q hq hb => ?_) h4 h5
  · rcases List.mem_cons.mp hp with rfl | hp
    · exact List.Mem.head _
    rcases List.mem_cons.mp hp with rfl | hp
    · exact List.Mem.tail _ (List.Mem.head _)
    rcases List.mem_cons.mp hp with rfl | hp
    · exact List.Mem.tail _ (List.Mem.tail _ (List.Mem.head _))
    rcases List.mem_append.mp hp with hp | hp
    · exact List.mem_append.mpr (.inr hp)
    · exact List.mem_append.mpr (.inl (List.Mem.tail _ (List.Mem.tail _ (List.Mem.tail _ hp))))
  · obtain ⟨p, hp, e⟩ := List.mem_map.mp hb
    exact hoff p hp q (List.Mem.tail _ (List.Mem.tail _ (List.Mem.tail _ hq))) e
theorem trip_at (H : Here w mean mg mb base dp un gd fr s₀.heap) (hd : dp + 21 < recursionLimit) (hu : un + 403 < cLine) (F : Fr s₀.heap env.locals s.heap m) (N : News s₀.heap env.locals s.heap news) (hk : env.scope.kind = .function) (hf : env.frame = some env.locals)
    (hl : s.heap.IsList l vs.toArray) (hi : IntsAre vs (rowsOf g))
    (ret : ∀ h' tk', Fr s₀.heap env.locals h' m → News s₀.heap env.locals h' news → Q (.bool (tripI (rowsOf g))) { s with heap := h', toks := tk' }) :
    wpAny (model PR w) ((AR dp un gd fr).deeper env) (call (.ref 189) [.ref l]) Q E s :=
  trip_call (H.push hd hu F hk hf) hl hi rfl (rowsOf_mem g) fun h' tk' kp => ret h' tk' (F.keeps kp) (N.grown kp)
theorem joined_at {tl : List (Addr × Obj)} (H : Here w mean mg mb base dp un gd fr s₀.heap) (hd : dp + 21 < recursionLimit) (hu : un + 403 < cLine) (F : Fr s₀.heap env.locals s.heap m) (N : News s₀.heap env.locals s.heap news) (hk : env.scope.kind = .function) (hf : env.frame = some env.locals)
    (hl : s.heap.IsList l vs.toArray) (hp : PairsIn tl vs (untiedOf g)) (htl : ∀ q ∈ tl, q ∈ news)
    (ret : ∀ D vs' n h' tk', IntsAre vs' (rowsOf g) → Fr s₀.heap env.locals h' m → News s₀.heap env.locals h' ((D, listOf (List.toArray vs') n) :: news) → (∀ p ∈ news, p.1 ≠ D) → Q (.ref D) { s with heap := h', toks := tk' }) :
    wpAny (model PR w) ((AR dp un gd fr).deeper env) (call (.ref 182) [.ref l]) Q E s := by
  refine joined_call (H.push hd hu F hk hf) hl (hp.at fun q hq => N q (htl q hq)) fun D vs' n h' tk' hr kp h1 h2 => ?_
  have no : NewObjs s.heap h' [(D, listOf (List.toArray vs') n)] := fun p hp => by rw [List.mem_singleton.mp hp]; exact ⟨h1, h2⟩
  exact ret D vs' n h' tk' hr (F.keeps kp) (no.news F N kp) fun p hp => no.off N p hp _ (List.Mem.head _)
theorem nested_at (H : Here w mean mg mb base dp un gd fr s₀.heap) (hd : dp + 21 < recursionLimit) (hu : un + 403 < cLine) (F : Fr s₀.heap env.locals s.heap m) (N : News s₀.heap env.locals s.heap news) (hk : env.scope.kind = .function) (hf : env.frame = some env.locals)
    (hl : s.heap.IsList l vs.toArray) (hi : IntsAre vs (rowsOf g))
    (ret : ∀ (b : Bool) h' tk', (b = true ↔ ∀ i ∈ rangeKs 0 (6 - 0 : Int).toNat, nRow (rowsOf g) i) → Fr s₀.heap env.locals h' m → News s₀.heap env.locals h' news → Q (.bool b) { s with heap := h', toks := tk' }) :
    wpAny (model PR w) ((AR dp un gd fr).deeper env) (call (.ref 196) [.ref l]) Q E s :=
  nested_call (H.push hd hu F hk hf) hl hi rfl (rowsOf_mem g) fun b h' tk' hb kp => ret b h' tk' hb (F.keeps kp) (N.grown kp)
theorem best_at' {tl : List (Addr × Obj)} (H : Here w mean mg mb base dp un gd fr s₀.heap) (hd : dp + 60 < recursionLimit) (hu : un + 900 < cLine) (F : Fr s₀.heap env.locals s.heap m) (N : News s₀.heap env.locals s.heap news) (hk : env.scope.kind = .function) (hf : env.frame = some env.locals)
    (hl : s.heap.IsList l vs.toArray) (hi : IntsAre vs (rowsOf g)) (hl2 : s.heap.IsList l2 vs2.toArray) (hi2 : IntsAre vs2 (degsOf g)) (hl3 : s.heap.IsList l3 vs3.toArray) (hp : PairsIn tl vs3 tr) (htl : ∀ q ∈ tl, q ∈ news) (hTr : Trail g tr g')
    (ret : ∀ h' tk', Fr s₀.heap env.locals h' m → News s₀.heap env.locals h' news → Q (.bool true) { s with heap := h', toks := tk' }) :
    wpAny (model PR w) ((AR dp un gd fr).deeper env) (call (.ref 177) [.ref l, .ref l2, .ref l3]) Q E s :=
  best_call (H.push (by omega) (by omega) F hk hf) (by show dp + 1 + 50 < _; omega) (by show un + 3 + 800 < _; omega) hl hi hl2 hi2 hl3 (hp.at fun q hq => N q (htl q hq)) hTr fun h' tk' kp => ret h' tk' (F.keeps kp) (N.grown kp)
theorem swept_at (H : Here w mean mg mb base dp un gd fr s₀.heap) (hd : dp + 21 < recursionLimit) (hu : un + 403 < cLine) (F : Fr s₀.heap env.locals s.heap m) (N : News s₀.heap env.locals s.heap news) (hk : env.scope.kind = .function) (hf : env.frame = some env.locals)
    (hl : s.heap.IsList l vs.toArray) (hi : IntsAre vs (rowsOf g)) (hl2 : s.heap.IsList l2 vs2.toArray) (hi2 : IntsAre vs2 (degsOf g))
    (ret : ∀ (g' : Nat) t l1' l2' vs1 n1 vs2 n2 h' tk', Reach g g' → Closed g' → Fr s₀.heap env.locals h' m →
      News s₀.heap env.locals h' ((t, { cls := .type "tuple", data := .seq #[.ref l1', .ref l2'] }) :: (l1', listOf (List.toArray vs1) n1) :: (l2', listOf (List.toArray vs2) n2) :: news) → IntsAre vs1 (rowsOf g') → IntsAre vs2 (degsOf g') → Q (.ref t) { s with heap := h', toks := tk' }) :
    wpAny (model PR w) ((AR dp un gd fr).deeper env) (call (.ref 172) [.ref l, .ref l2]) Q E s := by
  refine swept_call (H.push hd hu F hk hf) hl hi hl2 hi2 fun g' t l1' l2' vs1 n1 vs2 n2 h' tk' hr hc kp h1 h2 h3 h4 h5 h6 i1 i2 => ?_
  have no : NewObjs s.heap h' [(t, ({ cls := .type "tuple", data := .seq #[.ref l1', .ref l2'] } : Obj)), (l1', listOf (List.toArray vs1) n1), (l2', listOf (List.toArray vs2) n2)] := fun p hp => by
    simp only [List.mem_cons, List.not_mem_nil, or_false] at hp
    rcases hp with rfl | rfl | rfl
    · exact ⟨h1, h4⟩
    · exact ⟨h2, h5⟩
    · exact ⟨h3, h6⟩
  exact ret g' t l1' l2' vs1 n1 vs2 n2 h' tk' hr hc (F.keeps kp) (no.news F N kp) i1 i2
end
end

section
open PySem PySem.W PySem.Calls PyProof.Rows
set_option maxRecDepth 100000
theorem room_caller (env : Env) : (callerA.deeper env).units + 5 < cLine := (by decide +kernel : callerA.units + 3 + 5 < cLine)
theorem room_caller0 (env : Env) : (callerA.deeper env).units < cLine := (by decide +kernel : callerA.units + 3 < cLine)
section
variable {prog : Program} {w : World} {A : Around} {E : Value → Shared → Prop} {s : Shared} {h₀ : Heap} {L a b : Addr} {news : List (Addr × Obj)} {vs vs2 : List Value} {n n2 : Nat} {Q : Value → Shared → Prop}
theorem eq_empty {ps : List (Nat × Nat)} {tl : List (Addr × Obj)} (N : News h₀ L s.heap news) (ha : (a, listOf (List.toArray vs) n) ∈ news) (hb : (b, listOf #[] n2) ∈ news) (hp : PairsIn tl vs ps) (hu : A.units < cLine)
    (h : Q (.bool ps.isEmpty) s) : wpAny (model prog w) A (compareOp .Eq (.ref a) (.ref b)) Q E s := by
  have h1 : s.heap.IsList a vs.toArray := ⟨_, (N _ ha).1, rfl, _, rfl⟩
  have h2 : s.heap.IsList b #[] := ⟨_, (N _ hb).1, rfl, _, rfl⟩
  cases ps with
  | nil =>
    have e : vs = [] := List.length_eq_zero_iff.mp hp.1
    subst e
    exact SeqAt.eq_listAt (e := fun _ => true) h1 h2 rfl hu (fun j h1 => absurd h1 (Nat.not_lt_zero _)) h
  | cons p ps =>
    refine SeqAt.eq_list_lengthsAt h1 h2 ?_ hu h
    have := hp.1
    simp only [List.size_toArray, this, List.length_cons, List.size_toArray, List.length_nil]
    simp
theorem eq_pairs {ps : List (Nat × Nat)} (h1 : s.heap.IsList a vs.toArray) (h2 : s.heap.IsList b vs2.toArray) (hp : PairsAt s.heap vs ps) (hq : PairsAt s.heap vs2 ps) (hu : A.units + 5 < cLine)
    (h : Q (.bool true) s) : wpAny (model prog w) A (compareOp .Eq (.ref a) (.ref b)) Q E s := by
  have hl1 := hp.1
  have hl2 := hq.1
  refine SeqAt.eq_listAt (e := fun _ => true) h1 h2 (by simp [hl1, hl2]) (by omega) (fun j h3 h4 => ?_) ?_
  · have hj : j < ps.length := by simpa [hl1] using h3
    obtain ⟨v, e1, x, t, u, n, rfl, hx⟩ := hp.2 j _ (List.getElem?_eq_getElem hj)
    obtain ⟨v', e2, x', t', u', n', rfl, hx'⟩ := hq.2 j _ (List.getElem?_eq_getElem hj)
    have e1' : vs.toArray[j] = .ref x := by simpa using (List.getElem?_eq_some_iff.mp e1).2
    have e2' : vs2.toArray[j] = .ref x' := by simpa using (List.getElem?_eq_some_iff.mp e2).2
    rw [e1', e2']
    by_cases hxx : x = x'
    · subst hxx; exact SeqAt.EqAt.same _
    · have := eq_pair (A := A.in1) hxx hx hx' (by simp; omega)
      rw [beq_self_eq_true] at this
      exact this
  · have : (List.range vs.toArray.size).all (fun _ => true) = true := by simp
    rw [this]; exact h
end
end

section
open PySem PySem.W PySem.Calls PyProof.Rows
set_option maxRecDepth 100000
theorem ints_by {vs : List Value} {ds ns : List Int} (h : IntsAre vs ds) (e : ds = ns) : IntsAre vs ns := e ▸ h
noncomputable def Ordr (g : Nat) (ns : List Int) : Prop := ns.Perm (degsOf g) ∧ ns.Pairwise (· ≤ ·)
theorem hide_ints {vs : List Value} {ns : List Int} (h : IntsAre vs ns) : ∃ ds, IntsAre vs ds ∧ ds = ns := ⟨_, h, rfl⟩
/-- after a statement: the same frame's names m, the same ledger -/
noncomputable def After (h₀ : Heap) (L : Addr) (m : Str → Option Value) (news : List (Addr × Obj)) (s : Shared) (P : Prop) (f : Flow) (s' : Shared) : Prop :=
  f = .next ∧ ∃ h' tk', s' = { s with heap := h', toks := tk' } ∧ Fr h₀ L h' m ∧ News h₀ L h' news ∧ P
theorem if_next {M : Model} {A : Around} {E : Value → Shared → Prop} {s : Shared} {env : Env} {st : Stmt} {Q : Flow → Shared → Prop} {h₀ : Heap} {L : Addr} {m : Str → Option Value} {news : List (Addr × Obj)} (P : Prop)
    (h1 : wpAny M A (exec st env) (After h₀ L m news s P) E s)
    (h2 : ∀ h' tk', Fr h₀ L h' m → News h₀ L h' news → P → Q .next { s with heap := h', toks := tk' }) : wpAny M A (exec st env) Q E s :=
  wpAny_mono h1 (fun f s' ⟨e, h', tk', e', F, N, p⟩ => by subst e e'; exact h2 h' tk' F N p) fun _ _ y => y
theorem if_same {M : Model} {A : Around} {E : Value → Shared → Prop} {s : Shared} {env : Env} {st : Stmt} {Q : Flow → Shared → Prop} {h₀ : Heap} {L : Addr} {m : Str → Option Value} {news : List (Addr × Obj)} (_F : Fr h₀ L s.heap m) (_N : News h₀ L s.heap news) (P : Prop)
    (h1 : wpAny M A (exec st env) (After h₀ L m news s P) E s)
    (h2 : ∀ h' tk', Fr h₀ L h' m → News h₀ L h' news → P → Q .next { s with heap := h', toks := tk' }) : wpAny M A (exec st env) Q E s := if_next P h1 h2
theorem set_same {M : Model} {A : Around} {E : Value → Shared → Prop} {s : Shared} {env : Env} {st : Stmt} {Q : Flow → Shared → Prop} {h₀ : Heap} {L : Addr} {m : Str → Option Value} {news : List (Addr × Obj)} (_F : Fr h₀ L s.heap m) (_N : News h₀ L s.heap news) (x : Str) (v : Value)
    (h1 : wpAny M A (exec st env) (After h₀ L (fun y => if y = x then some v else m y) news s True) E s)
    (h2 : ∀ h' tk', Fr h₀ L h' (fun y => if y = x then some v else m y) → News h₀ L h' news → Q .next { s with heap := h', toks := tk' }) : wpAny M A (exec st env) Q E s := if_next True h1 fun h' tk' F N _ => h2 h' tk' F N
noncomputable abbrev sureOf (ns : List Int) : Bool := decide (ns.getD 0 0 > 1) && decide (ns.getD 1 0 > 2)
theorem set_sure {M : Model} {A : Around} {E : Value → Shared → Prop} {s : Shared} {env : Env} {st : Stmt} {Q : Flow → Shared → Prop} {h₀ : Heap} {L : Addr} {m : Str → Option Value} {news : List (Addr × Obj)} {g : Nat} {ns : List Int} (F : Fr h₀ L s.heap m) (N : News h₀ L s.heap news) (_q : Ordr g ns)
    (h1 : wpAny M A (exec st env) (After h₀ L (fun y => if y = "sure" then some (.bool (sureOf ns)) else m y) news s True) E s)
    (h2 : ∀ h' tk', Fr h₀ L h' (fun y => if y = "sure" then some (.bool (sureOf ns)) else m y) → News h₀ L h' news → Q .next { s with heap := h', toks := tk' }) : wpAny M A (exec st env) Q E s := set_same F N "sure" _ h1 h2
theorem After.mk {h₀ : Heap} {L : Addr} {m : Str → Option Value} {news news' : List (Addr × Obj)} {s : Shared} {P : Prop} {h' : Heap} {tk' : Nat} (F : Fr h₀ L h' m) (N : News h₀ L h' news') (hs : ∀ q ∈ news, q ∈ news') (p : P) :
    After h₀ L m news s P .next { s with heap := h', toks := tk' } := ⟨rfl, h', tk', rfl, F, fun q hq => N q (hs q hq), p⟩
end

section
open PySem PySem.W
set_option maxRecDepth 100000
/-- sorted: how many lie at k or below -/
theorem srt {k : Int} : ∀ (l : List Int) (j : Nat), l.Pairwise (· ≤ ·) → j < l.length → (l.getD j 0 ≤ k ↔ j + 1 ≤ l.countP fun x => decide (x ≤ k))
  | [], j, _, h => absurd h (Nat.not_lt_zero _)
  | a :: r, j, hp, hj => by
    have hp' := List.pairwise_cons.mp hp
    by_cases ha : a ≤ k
    · rw [List.countP_cons_of_pos (by simpa using ha)]
      cases j with
      | zero => simp [ha]
      | succ j =>
        have := srt (k := k) r j hp'.2 (by simpa using hj)
        rw [List.getD_cons_succ, this]; omega
    · have h0 : r.countP (fun x => decide (x ≤ k)) = 0 := by
        rw [List.countP_eq_zero]
        intro x hx
        have := hp'.1 x hx
        simp only [decide_eq_true_eq]; omega
      rw [List.countP_cons_of_neg (by simpa using ha), h0]
      have hm : (a :: r).getD j 0 ∈ a :: r := by
        rw [List.getD_eq_getElem?_getD, List.getElem?_eq_getElem hj]; exact List.getElem_mem hj
      have : a ≤ (a :: r).getD j 0 := by
        rcases List.mem_cons.mp hm with e | e
        · omega
        · exact hp'.1 _ e
      omega
theorem few_cnt (g k : Nat) : (degsOf g).countP (fun x => decide (x ≤ (k : Int))) = cnt (bitsOf g) (fewX k) := by
  have key : ∀ i, i < 6 → (evB (bitsOf g) (.not (thr (k + 1) (nX i)))) = decide ((deg g i : Int) ≤ (k : Int)) := fun i hi => by
    show (!evB _ (thr (k + 1) (nX i))) = _
    rw [thr_ev, nX_cnt hi, Bool.eq_iff_iff]
    simp only [Bool.not_eq_true', decide_eq_false_iff_not, decide_eq_true_eq]; omega
  unfold cnt fewX degsOf six
  simp only [List.map_cons, List.map_nil, List.sum_cons, List.sum_nil, key 0 (by decide), key 1 (by decide), key 2 (by decide), key 3 (by decide), key 4 (by decide), key 5 (by decide)]
  simp only [List.countP_cons, List.countP_nil]
  have bt : ∀ b : Bool, (if b = true then 1 else 0) = b.toNat := fun b => by cases b <;> rfl
  simp only [bt]; omega
theorem ordr_few {g : Nat} {ns : List Int} (o : Ordr g ns) (k : Nat) {j : Nat} (hj : j < 6) : ns.getD j 0 ≤ (k : Int) ↔ j + 1 ≤ cnt (bitsOf g) (fewX k) := by
  rw [srt ns j o.2 (by rw [o.1.length_eq]; exact hj), o.1.countP_eq, few_cnt]
theorem few_mono {g g' : Nat} (h : Sub g g') (k : Nat) : cnt (bitsOf g') (fewX k) ≤ cnt (bitsOf g) (fewX k) := by
  have key : ∀ i, i < 6 → (evB (bitsOf g') (.not (thr (k + 1) (nX i)))).toNat ≤ (evB (bitsOf g) (.not (thr (k + 1) (nX i)))).toNat := fun i hi => by
    show (!evB _ (thr (k + 1) (nX i))).toNat ≤ (!evB _ (thr (k + 1) (nX i))).toNat
    rw [thr_ev, nX_cnt hi, thr_ev, nX_cnt hi]
    have := deg_mono h hi
    by_cases c : k + 1 ≤ deg g i
    · rw [decide_eq_true c, decide_eq_true (by omega : k + 1 ≤ deg g' i)]; exact Nat.le_refl _
    · rw [decide_eq_false c]; exact toNat_le _
  unfold cnt fewX
  simp only [List.map_cons, List.map_nil, List.sum_cons, List.sum_nil]
  have := key 0 (by decide); have := key 1 (by decide); have := key 2 (by decide); have := key 3 (by decide); have := key 4 (by decide); have := key 5 (by decide)
  omega
theorem chv_ev (g : Nat) : evB (bitsOf g) chvX = true ↔ ¬ (1 ≤ cnt (bitsOf g) (fewX 1) ∧ 5 ≤ cnt (bitsOf g) (fewX 4)) ∧ ¬ (2 ≤ cnt (bitsOf g) (fewX 2) ∧ 4 ≤ cnt (bitsOf g) (fewX 3)) := by
  show (!(evB _ (thr 1 (fewX 1)) && evB _ (thr 5 (fewX 4))) && !(evB _ (thr 2 (fewX 2)) && evB _ (thr 4 (fewX 3)))) = true ↔ _
  rw [thr_ev, thr_ev, thr_ev, thr_ev]
  simp only [Bool.and_eq_true, Bool.not_eq_true', Bool.and_eq_false_iff, decide_eq_false_iff_not]
  omega
theorem sure_ev (g : Nat) : evB (bitsOf g) sureX = true ↔ ¬ 1 ≤ cnt (bitsOf g) (fewX 1) ∧ ¬ 2 ≤ cnt (bitsOf g) (fewX 2) := by
  show (!evB _ (thr 1 (fewX 1)) && !evB _ (thr 2 (fewX 2))) = true ↔ _
  rw [thr_ev, thr_ev]
  simp only [Bool.and_eq_true, Bool.not_eq_true', decide_eq_false_iff_not]
theorem sure_of {g : Nat} {ns : List Int} (o : Ordr g ns) : sureOf ns = evB (bitsOf g) sureX := by
  rw [Bool.eq_iff_iff, sure_ev]
  unfold sureOf
  have h1 := ordr_few o 1 (j := 0) (by decide)
  have h2 := ordr_few o 2 (j := 1) (by decide)
  simp only [Bool.and_eq_true, decide_eq_true_eq, gt_iff_lt]
  omega
theorem pair_lt {p : Nat × Nat} (h : p ∈ allPairs) : p.2 < p.1 ∧ p.1 < 6 := by
  have : ∀ p ∈ allPairs, p.2 < p.1 ∧ p.1 < 6 := by decide
  exact this p h
theorem closed_ev {g : Nat} (h : Closed g) : evB (bitsOf g) closedX = true := by
  unfold closedX
  rw [all_ev]
  intro b hb
  obtain ⟨p, hp, rfl⟩ := List.mem_map.mp hb
  have hl := pair_lt hp
  show (evB _ (eX p.1 p.2) || !evB _ (heavyX p.1 p.2)) = true
  rw [eX_ev hl.2 (by omega), heavy_ev hl.2 (by omega)]
  cases e : edge g p.1 p.2
  · simp only [Bool.false_or, Bool.not_eq_true', decide_eq_false_iff_not]
    intro h6
    exact h p.1 p.2 ⟨hl.1, hl.2, e, h6⟩
  · rfl
theorem full_ev (g : Nat) : evB (bitsOf g) fullX = (untiedOf g).isEmpty := by
  rw [Bool.eq_iff_iff]
  unfold fullX
  rw [all_ev]
  unfold untiedOf
  rw [List.isEmpty_iff, List.filter_eq_nil_iff]
  constructor
  · intro h p hp
    have hl := pair_lt hp
    have := h _ (List.mem_map.mpr ⟨p, hp, rfl⟩)
    rw [eX_ev hl.2 (by omega)] at this
    simp [this]
  · intro h b hb
    obtain ⟨p, hp, rfl⟩ := List.mem_map.mp hb
    have hl := pair_lt hp
    rw [eX_ev hl.2 (by omega)]
    have := h p hp
    simpa using this
theorem whole_of {g g' : Nat} (hr : Reach g g') (hc : Closed g') (h : evB (bitsOf g) chvX = true) : (untiedOf g').isEmpty = true := by
  rw [← full_ev]
  refine imp_ev (all_nets chv_eq g') ?_
  show (evB _ closedX && evB _ chvX) = true
  rw [closed_ev hc, Bool.true_and, chv_ev]
  rw [chv_ev] at h
  have hs := reach_sub hr
  have h1 := few_mono hs 1; have h2 := few_mono hs 2; have h3 := few_mono hs 3; have h4 := few_mono hs 4
  omega
theorem chv_whole {g g' : Nat} {ns : List Int} (hr : Reach g g') (hc : Closed g') (o : Ordr g ns) (h1 : ¬ (ns.getD 0 0 ≤ 1 ∧ ns.getD 4 0 < 5)) (h2 : ¬ (ns.getD 1 0 ≤ 2 ∧ ns.getD 3 0 < 4)) : (untiedOf g').isEmpty = true := by
  refine whole_of hr hc ((chv_ev g).mpr ?_)
  have a1 := ordr_few o 1 (j := 0) (by decide)
  have a2 := ordr_few o 4 (j := 4) (by decide)
  have a3 := ordr_few o 2 (j := 1) (by decide)
  have a4 := ordr_few o 3 (j := 3) (by decide)
  omega
theorem sure_chv {g : Nat} (h : evB (bitsOf g) sureX = true) : evB (bitsOf g) chvX = true := by
  rw [sure_ev] at h
  rw [chv_ev]
  omega
theorem full_trip_ok : Nat.beq (evN (fullT 15) (tabT 15) (impX fullX tripX)) (fullT 15) = true := by decide +kernel
theorem full_trip_eq : evN (fullT 15) (tabT 15) (impX fullX tripX) = fullT 15 := Nat.eq_of_beq_eq_true full_trip_ok
theorem andN : ∀ (a : Fin 64) (j : Fin 6), Builtin.bitAnd (a.val : Int) (63 - 1 * 2 ^ j.val) = ((a.val &&& (63 - 2 ^ j.val) : Nat) : Int) := by decide +kernel
theorem mskN : ∀ j k : Fin 6, (63 - 2 ^ j.val).testBit k.val = decide (k ≠ j) := by decide +kernel
theorem ltN : ∀ (a : Fin 64) (j : Fin 6), a.val &&& (63 - 2 ^ j.val) < 64 := by decide +kernel
theorem orN : ∀ a b : Fin 64, Builtin.bitOr (a.val : Int) (b.val : Int) = ((a.val ||| b.val : Nat) : Int) := by decide +kernel
/-- one row's number without node j -/
noncomputable def rowX (g i j : Nat) : Nat := rowN g i &&& (63 - 2 ^ j)
theorem rowX_lt (g i : Nat) {j : Nat} (hj : j < 6) : rowX g i j < 64 := ltN ⟨_, rowN_lt g i⟩ ⟨j, hj⟩
theorem rowX_bit (g i : Nat) {j k : Nat} (hj : j < 6) (hk : k < 6) : (rowX g i j).testBit k = (edge g i k && decide (k ≠ j)) := by
  have := mskN ⟨j, hj⟩ ⟨k, hk⟩
  simp only [ne_eq, Fin.mk.injEq] at this
  unfold rowX
  rw [Nat.testBit_and, rowN_bit _ _ hk, this]
theorem nOne_eq {g i j : Nat} (hi : i < 6) (hj : j < 6) : nOne (rowsOf g) (i : Int) (j : Int) = (rowX g i j : Int) := by
  unfold nOne
  rw [Int.toNat_natCast, Int.toNat_natCast, row_get hi]
  exact andN ⟨_, rowN_lt g i⟩ ⟨j, hj⟩
theorem sub_or {g i j : Nat} (hi : i < 6) (hj : j < 6) (h : rowX g i j = rowX g i j ||| rowX g j i) : evB (bitsOf g) (subX j i) = true := by
  unfold subX
  rw [all_ev]
  intro b hb
  obtain ⟨k, hk, rfl⟩ := List.mem_map.mp hb
  have hk6 : k < 6 := by
    have : ∀ k ∈ [0, 1, 2, 3, 4, 5], k < 6 := by decide
    exact this k hk
  split
  · rfl
  · next hne =>
    have hb := congrArg (fun n => n.testBit k) h
    simp only [Nat.testBit_or] at hb
    rw [rowX_bit g i hj hk6, rowX_bit g j hi hk6, decide_eq_true (by omega : k ≠ j), decide_eq_true (by omega : k ≠ i), Bool.and_true, Bool.and_true] at hb
    show (!evB _ (eX j k) || evB _ (eX i k)) = true
    rw [eX_ev hj hk6, eX_ev hi hk6]
    cases e1 : edge g i k <;> cases e2 : edge g j k <;> rw [e1, e2] at hb <;> first | rfl | cases hb
theorem nested_ev {g : Nat} (h : ∀ i ∈ rangeKs 0 (6 - 0 : Int).toNat, nRow (rowsOf g) i) : evB (bitsOf g) nestX = true := by
  unfold nestX
  rw [all_ev]
  intro b hb
  obtain ⟨p, hp, rfl⟩ := List.mem_map.mp hb
  have hl := pair_lt hp
  have h2 : p.2 < 6 := by omega
  have hq := h (p.1 : Int) (mem_rk (by omega) (by omega)) (p.2 : Int) (mem_rk (by omega) (by omega))
  unfold nP at hq
  rw [nOne_eq hl.2 h2, nOne_eq h2 hl.2, orN ⟨_, rowX_lt g p.1 h2⟩ ⟨_, rowX_lt g p.2 hl.2⟩] at hq
  simp only [List.any_cons, List.any_nil, Bool.or_false, Bool.or_eq_true, beq_iff_eq, Int.natCast_inj] at hq
  show (evB _ (subX p.1 p.2) || evB _ (subX p.2 p.1)) = true
  rcases hq with hq | hq
  · rw [sub_or hl.2 h2 hq, Bool.or_true]
  · rw [sub_or h2 hl.2 (by rw [Nat.or_comm]; exact hq), Bool.true_or]
theorem nest_all {g g' : Nat} {ns : List Int} (hr : Reach g g') (hc : Closed g') (o : Ordr g ns) (h : ∀ i ∈ rangeKs 0 (6 - 0 : Int).toNat, nRow (rowsOf g) i) :
    (untiedOf g').isEmpty = tripI (rowsOf g) ∧ (untiedOf g').isEmpty = sureOf ns := by
  have hn := nested_ev h
  have h1 : evB (bitsOf g) sureX = true → (untiedOf g').isEmpty = true := fun q => whole_of hr hc (sure_chv q)
  have h2 : (untiedOf g').isEmpty = true → tripI (rowsOf g) = true := fun q => by
    rw [← trip_reach hr, trip_ev]
    exact imp_ev (all_nets full_trip_eq g') (by rw [full_ev]; exact q)
  have h3 : tripI (rowsOf g) = true → evB (bitsOf g) sureX = true := fun q => by
    refine imp_ev (all_nets nest_eq g) ?_
    show (evB _ nestX && evB _ tripX) = true
    rw [hn, ← trip_ev, q]; rfl
  rw [sure_of o]
  revert h1 h2 h3
  cases evB (bitsOf g) sureX <;> cases (untiedOf g').isEmpty <;> cases tripI (rowsOf g) <;> simp
theorem same_edges {g1 g2 : Nat} (h : ∀ a b, a < 6 → b < 6 → edge g1 a b = edge g2 a b) : untiedOf g1 = untiedOf g2 ∧ degsOf g1 = degsOf g2 := by
  refine ⟨List.filter_congr fun p hp => ?_, six_congr fun i hi => deg_congr fun k hk => h i k hi hk⟩
  have := pair_lt hp
  rw [h p.1 p.2 this.2 (by omega)]
theorem word_degs (g : Nat) : wordL g = (degsOf g).reverse.map fun d => 65 + d := rfl
end

section
open PySem PySem.W PySem.Calls PyProof.Rows
set_option maxRecDepth 100000
theorem bytes_back {wb : Array UInt8} {ns : List Int} (h : KBw.bInts wb = ns) : (byteArr ns).toList = wb.toList := by
  subst h
  unfold byteArr KBw.bInts
  simp only [List.map_map]
  have e : ∀ c : UInt8, ((fun n : Int => n.toNat.toUInt8) ∘ fun c : UInt8 => (c.toNat : Int)) c = c := by
    intro c
    simp
  rw [show ((fun n : Int => n.toNat.toUInt8) ∘ fun c : UInt8 => (c.toNat : Int)) = id from funext e]
  simp
theorem word_back {wb : Array UInt8} {g1 g2 : Nat} (h : KBw.bInts wb = wordL g1) (e : degsOf g1 = degsOf g2) : (byteArr ((degsOf g2).reverse.map fun d => 65 + d)).toList = wb.toList :=
  bytes_back (h.trans (by rw [word_degs, e]))
theorem degs_bds (g : Nat) : ∀ d ∈ degsOf g, 0 ≤ d ∧ d ≤ 6 := by
  intro x hx
  simp only [degsOf, six, List.mem_cons, List.not_mem_nil, or_false] at hx
  have := deg_le6 g 0; have := deg_le6 g 1; have := deg_le6 g 2; have := deg_le6 g 3; have := deg_le6 g 4; have := deg_le6 g 5
  rcases hx with rfl | rfl | rfl | rfl | rfl | rfl <;> omega
theorem swept_same {g g1 g2 : Nat} {tr : List (Nat × Nat)} (h1 : Trail g tr g1) (c1 : Closed g1) (h2 : Reach g g2) (c2 : Closed g2) : untiedOf g2 = untiedOf g1 ∧ degsOf g1 = degsOf g2 := by
  have := same_edges (closure_one h1.reach c1 h2 c2)
  exact ⟨this.1.symm, this.2⟩
end

section
open PySem PySem.W PySem.Calls PyProof.Rows
set_option maxRecDepth 100000
theorem sure1 {ns : List Int} (h : 1 < ns.getD (Int.toNat 0) 0) : sureOf ns = decide (2 < ns.getD (Int.toNat 1) 0) := by
  have h' : decide (ns.getD 0 0 > 1) = true := decide_eq_true h
  show (decide (ns.getD 0 0 > 1) && decide (ns.getD 1 0 > 2)) = _
  rw [h']; rfl
theorem sure2 {ns : List Int} (h : ¬ 1 < ns.getD (Int.toNat 0) 0) : sureOf ns = decide (1 < ns.getD (Int.toNat 0) 0) := by
  have h' : decide (ns.getD 0 0 > 1) = false := decide_eq_false h
  show (decide (ns.getD 0 0 > 1) && decide (ns.getD 1 0 > 2)) = decide (ns.getD 0 0 > 1)
  rw [h']; rfl
theorem trip_out {g g' : Nat} {tr : List (Nat × Nat)} (hT : Trail g tr g') (h : (tripI (rowsOf g) != tripI (rowsOf g')) = true) : False := by
  rw [trip_reach hT.reach] at h
  simp at h
theorem chv_out {g g' : Nat} {tr : List (Nat × Nat)} {ns : List Int} (hT : Trail g tr g') (hc : Closed g') (q : Ordr g ns) (he : (untiedOf g').isEmpty = false)
    (h1 : ¬ ns.getD (1 - 1 : Int).toNat 0 ≤ 1 ∨ ¬ ns.getD (5 - 1 : Int).toNat 0 < 6 - 1) (h2 : ¬ ns.getD (2 - 1 : Int).toNat 0 ≤ 2 ∨ ¬ ns.getD (5 - 2 : Int).toNat 0 < 6 - 2) : False := by
  have := chv_whole hT.reach hc q (fun a => h1.elim (fun b => b a.1) fun b => b a.2) (fun a => h2.elim (fun b => b a.1) fun b => b a.2)
  rw [this] at he
  cases he
theorem nest_out1 {g g' : Nat} {tr : List (Nat × Nat)} {ns : List Int} {b : Bool} (hT : Trail g tr g') (hc : Closed g') (q : Ordr g ns) (hb : b = true ↔ ∀ i ∈ rangeKs 0 (6 - 0 : Int).toNat, nRow (rowsOf g) i) (e : b = true)
    (h : ((untiedOf g').isEmpty != tripI (rowsOf g)) = true) : False := by
  rw [(nest_all hT.reach hc q (hb.mp e)).1] at h
  simp at h
theorem nest_out2 {g g' : Nat} {tr : List (Nat × Nat)} {ns : List Int} {b : Bool} (hT : Trail g tr g') (hc : Closed g') (q : Ordr g ns) (hb : b = true ↔ ∀ i ∈ rangeKs 0 (6 - 0 : Int).toNat, nRow (rowsOf g) i) (e : b = true)
    (h : ((untiedOf g').isEmpty != sureOf ns) = true) : False := by
  rw [(nest_all hT.reach hc q (hb.mp e)).2] at h
  simp at h
end

section
open PySem PySem.W PySem.Calls PyProof.Rows PyProof.Rows.LCg PyProof.Rows.LCt
set_option maxRecDepth 100000
section
variable {prog : Program} {w : World} {A : Around} {E : Value → Shared → Prop} {s : Shared} {h₀ : Heap} {L : Addr} {m : Str → Option Value} {env : Env}
noncomputable def TupIn (ax : Addr) (its : Array Value) (nw : List (Addr × Obj)) : Prop := ∃ o, (ax, o) ∈ nw ∧ o.cls = .type "tuple" ∧ ∃ n, o.data = .seq its n
noncomputable def CompSrcTT (prog : Program) (w : World) (A : Around) (h₀ : Heap) (L : Addr) (m : Str → Option Value) (env : Env) (ct elt : Expr) (x : Str) (scope : Scope) (cl : List (Str × Addr)) (Q : Value → Shared → Prop) (xv : Value) (s₁ : Shared) : Prop :=
  ∃ ax its news, xv = .ref ax ∧ A.handled = none ∧ Fr h₀ L s₁.heap m ∧ News h₀ L s₁.heap news ∧ TupIn ax its news ∧ its.size ≤ sizeLine ∧
    ∀ g, CompRestT prog w A h₀ L m env ct elt x scope cl { s₁ with heap := g } (TupIn ax its) (fun i v => its[i]? = some v) (FinE h₀ L m { s₁ with heap := g } Q) its.size 0 [] news
theorem tup_st {ax I : Addr} {its : Array Value} : ∀ i (h h' : Heap) (o : Obj) (nw : List (Addr × Obj)), (h.IsTupleIter I ax i ∧ h.IsTuple ax its) → h.get? I = some o → h'.get? I = some o → (∀ b o, h₀.get? b = some o → h'.get? b = some o) → News h₀ L h' nw → TupIn ax its nw → (h'.IsTupleIter I ax i ∧ h'.IsTuple ax its) :=
  fun i h h' o nw st e e' k N S => ⟨by obtain ⟨o', q, r⟩ := st.1; rw [e] at q; cases q; exact ⟨o, e', r⟩, by obtain ⟨o', q, r⟩ := S; exact ⟨o', (N _ q).1, r⟩⟩
theorem ListComp_TT {ct elt iter : Expr} {x : Str} {px : Pos} {scope : Scope} {cl : List (Str × Addr)} {pos : Pos} {Q : Value → Shared → Prop} (_F₀ : Fr h₀ L s.heap m)
    (hclos : closureFor scope env = pure cl) (hcell : ∀ y ∈ scope.names, y.2 ≠ .cell) (hkind : scope.kind = .function)
    (hnames : ∀ y ∈ scope.names, y.2 = .local → scope.names.lookup y.1 = some .local) (hx : scope.names.lookup x = some .local)
    (h : wpAny (model prog w) A (eval iter env) (CompSrcTT prog w A h₀ L m env ct elt x scope cl Q) E s)
    (hs : ∀ x, foldedSetIterable iter env x = pure x := by intro _; rfl) :
    wpAny (model prog w) A (eval (.ListComp elt [⟨.Name x px, iter, [ct], 0⟩] scope pos) env) Q E s := by
  rw [eval_ListComp]
  refine wpAny_comprehension_free (use := none) rfl hs hclos hkind hnames (wpAny_mono h (fun xv s₁ h₁ => ?_) fun _ _ e => e)
  obtain ⟨ax, its, news, rfl, hh, F, N, S, hsz, R⟩ := h₁
  have hl : s₁.heap.IsTuple ax its := by obtain ⟨o, e, r⟩ := S; exact ⟨o, (N _ e).1, r⟩
  have hlt : ax < s₁.heap.objs.size := by obtain ⟨_, e, _⟩ := hl; exact Heap.lt_size e
  refine wpAny_pyIter_tuple hl ?_
  have up : ∀ b o, s₁.heap.get? b = some o → (s₁.heap.push { cls := .type "tuple_iterator", data := .fields #[.ref ax, .int 0 0] }).get? b = some o := fun b o e => Heap.get?_push_of_some _ e
  refine block_T (Walks.tuple hh s₁.heap.objs.size ax (Nat.ne_of_lt hlt) its) hsz (fun i h st => by obtain ⟨o, e, _⟩ := st.1; exact ⟨o, e⟩) tup_st hcell hkind hx ⟨⟨_, Heap.get?_push_size _ rfl, rfl, rfl⟩, hl.push _⟩ (fun b hb => ?_)
    (F.keeps up) (N.grown up) (Nat.ne_of_lt F.ns.lt) (next_is_new F) (fun p hp => Nat.ne_of_lt (Heap.lt_size (N p hp).1)) S (R _) ?_
  · show b < (s₁.heap.push _).objs.size
    rw [Heap.size_push]
    rcases List.mem_cons.mp hb with rfl | hb
    · exact Nat.lt_succ_self _
    · rw [List.mem_singleton.mp hb]; exact Nat.lt_succ_of_lt hlt
  · intro D C h tk m' ys news' F' N' o1 hn hC₀ hD₀ hCL hDL hCD offC fin
    refine ⟨m', hn, fun h'' hs'' => fin D h'' tk (F'.change hs'' hCL hC₀) (fun p hp => ?_) o1⟩
    refine ⟨hs''.extBut _ _ ?_ (N' p hp).1, (N' p hp).2⟩
    rcases List.mem_cons.mp hp with rfl | hp
    · exact Ne.symm hCD
    · exact offC p hp
theorem CompSrcTT.mk {ct elt : Expr} {x : Str} {scope : Scope} {cl : List (Str × Addr)} {Q : Value → Shared → Prop} {ax : Addr} {its : Array Value} {k : Nat} {news : List (Addr × Obj)} {s₁ : Shared}
    (hh : A.handled = none) (F : Fr h₀ L s₁.heap m) (N : News h₀ L s₁.heap news) (hm : (ax, ({ cls := .type "tuple", data := .seq its k } : Obj)) ∈ news) (hsz : its.size ≤ sizeLine)
    (h : ∀ g, CompRestT prog w A h₀ L m env ct elt x scope cl { s₁ with heap := g } (TupIn ax its) (fun i v => its[i]? = some v) (FinE h₀ L m { s₁ with heap := g } Q) its.size 0 [] news) :
    CompSrcTT prog w A h₀ L m env ct elt x scope cl Q (.ref ax) s₁ := ⟨ax, its, news, rfl, hh, F, N, ⟨_, hm, rfl, _, rfl⟩, hsz, h⟩
end
end

section
open PySem PySem.W PySem.Calls PyProof.Rows PyProof.Rows.LCg PyProof.Rows.LCt
set_option maxRecDepth 100000
set_option maxHeartbeats 16000000
/-- marks in the context: the walk stops at an If; at the test of two lists; at a name's BoolOp -/
inductive MkIf : Prop | mk
inductive MkEq : Prop | mk
inductive MkSure : Prop | mk
noncomputable def StopC (P : Prop) : Prop := P
theorem StopC.out {P : Prop} (h : StopC P) : P := h
theorem isList_mem {h₀ h : Heap} {L l : Addr} {news : List (Addr × Obj)} {vs : List Value} {n : Nat} (N : News h₀ L h news) (hm : (l, listOf (List.toArray vs) n) ∈ news) : h.IsList l vs.toArray := ⟨_, (N _ hm).1, rfl, _, rfl⟩
theorem here_top {w : World} {mean : ExcName → Option Value} {mg mb : Str → Option Value} {h : Heap} (X : (hd81.heap_39 (World.params w)).In h) (T : Top vw LO mean mg mb h) (B : Below callerA h [] h) : Here w mean mg mb h (1 + claimMargin) 4 (some []) [] h :=
  ⟨X, T, B, by decide +kernel, by decide +kernel⟩
theorem tup_of {h₀ h : Heap} {L ax : Addr} {its : Array Value} {k : Nat} {news : List (Addr × Obj)} (_N : News h₀ L h ((ax, ({ cls := .type "tuple", data := .seq its k } : Obj)) :: news)) : TupIn ax its ((ax, ({ cls := .type "tuple", data := .seq its k } : Obj)) :: news) := ⟨_, .head _, rfl, _, rfl⟩
theorem degs_fit {vs : List Value} {ds : List Int} {g : Nat} (h : IntsAre vs ds) (e : ds = degsOf g) : vs.toArray.size ≤ sizeLine := by
  subst e
  rw [List.size_toArray, h.length, degsOf_length, sizeLine_eq]; decide
theorem word_in {g : Nat} {ds : List Int} (e : ds = degsOf g) : KBa.In (ds.reverse.map fun d => 65 + d) := by
  subst e
  intro n hn
  obtain ⟨d, hd, rfl⟩ := List.mem_map.mp hn
  have := degs_bds g d (List.mem_reverse.mp hd)
  omega
theorem word_len {g : Nat} {ds : List Int} (e : ds = degsOf g) : (ds.reverse.map fun d => 65 + d).length ≤ 16777216 := by
  subst e
  rw [List.length_map, List.length_reverse, degsOf_length]; decide
theorem word_bytes {g g2 : Nat} {ds : List Int} {wb : Array UInt8} (e : ds = degsOf g2) (h : KBw.bInts wb = wordL g) (e2 : degsOf g = degsOf g2) : (wb.toList == (byteArr (ds.reverse.map fun d => 65 + d)).toList) = true := by
  subst e
  rw [word_back h e2]
  exact beq_self_eq_true _
theorem ints_of {vs : List Value} {ds ns : List Int} (h : IntsAre vs ds) (_e : ds = ns) : IntsAre vs ds := h

theorem law_holds : PySem.Challenge.rw_wn0081_01.Holds := by
  k_with_none
  (k_with "storeName" => (dsimp only; walk_at "storeName"))
  (k_with "setItem ref int" => (dsimp only; walk_at "setItem ref int"))
  (k_with "newTuple" => (dsimp only; walk_at "newTuple"))
  (k_with "newList" => (dsimp only; walk_at "newList"))
  (k_with "exec If" => (k_here; (rename MkIf => g9); refine StopC.out ?_))
  (k_with "exec Assign cons BoolOp" => (k_here; (rename MkSure => g9); refine StopC.out ?_))
  (k_with "exec Assign" => (k_here; (rename MkSure => g9); (with_reducible show wpAny _ _ (exec (PySem.Stmt.Assign _ (PySem.Expr.BoolOp _ _ _) _) _) _ _ _); refine StopC.out ?_))
  (k_with "call builtin:sorted" => (k_here; refine StopC.out ?_))
  (k_with "call ref" => (k_here; (with_reducible show wpAny _ _ (call (Value.ref 143) _ _) _ _ _); (rename Here _ _ _ _ _ _ _ _ _ _ => hereX); (rename Fr _ _ _ _ => F'); (rename News _ _ _ _ => N'); (k_dflt (refine net_at hereX (by decide +kernel) (by decide +kernel) F' N' rfl rfl (isList_of F' (by assumption)) (by assumption) (by omega) ?_)); intro g' D' vs' n' h' tk' hr' F' N' no'; (have no9 := no'); (try simp only [List.cons_append, List.nil_append] at N'); (try k_fold)))
  (k_with "call ref" => (k_here; (with_reducible show wpAny _ _ (call (Value.ref 148) _ _) _ _ _); (rename Here _ _ _ _ _ _ _ _ _ _ => hereX); (rename Fr _ _ _ _ => F'); (rename News _ _ _ _ => N'); (k_dflt (refine deg_at hereX (by decide +kernel) (by decide +kernel) F' N' rfl rfl (isList_mem N' (by k_mem)) (by assumption) ?_)); intro D' vs' n' h' tk' hr' F' N' no'; (try simp only [List.cons_append, List.nil_append] at N'); (try k_fold)))
  (k_with "call ref" => (k_here; (with_reducible show wpAny _ _ (call (Value.ref 165) _ _) _ _ _); (rename Here _ _ _ _ _ _ _ _ _ _ => hereX); (rename Fr _ _ _ _ => F'); (rename News _ _ _ _ => N'); (k_dflt (refine closed_at hereX (by decide +kernel) (by decide +kernel) F' N' rfl rfl (isList_mem N' (by k_mem)) (by assumption) ?_)); intro T' DP' DT' g' tr' wb' tw' vsP' vsT' kP' kT' tl' h' tk' ht' hc' hw' F' N' noff' off' pp' pt'; (try simp only [List.cons_append, List.nil_append] at N'); (try k_fold)))
  (k_with "call ref" => (k_here; (with_reducible show wpAny _ _ (call (Value.ref 189) _ _) _ _ _); (rename Here _ _ _ _ _ _ _ _ _ _ => hereX); (rename Fr _ _ _ _ => F'); (rename News _ _ _ _ => N'); (k_dflt (refine trip_at hereX (by decide +kernel) (by decide +kernel) F' N' rfl rfl (isList_mem N' (by k_mem)) (by assumption) ?_)); intro h' tk' F' N'; (try simp only [List.cons_append, List.nil_append] at N'); (try k_fold)))
  (k_with "call ref" => (k_here; (with_reducible show wpAny _ _ (call (Value.ref 196) _ _) _ _ _); (rename Here _ _ _ _ _ _ _ _ _ _ => hereX); (rename Fr _ _ _ _ => F'); (rename News _ _ _ _ => N'); (k_dflt (refine nested_at hereX (by decide +kernel) (by decide +kernel) F' N' rfl rfl (isList_mem N' (by k_mem)) (ints_by (by assumption) (by assumption)) ?_)); intro b' h' tk' hb' F' N'; (try simp only [List.cons_append, List.nil_append] at N'); (try k_fold)))
  (k_with "call ref" => (k_here; (with_reducible show wpAny _ _ (call (Value.ref 182) _ _) _ _ _); (rename Here _ _ _ _ _ _ _ _ _ _ => hereX); (rename Fr _ _ _ _ => F'); (rename News _ _ _ _ => N'); (k_dflt (refine joined_at hereX (by decide +kernel) (by decide +kernel) F' N' rfl rfl (isList_mem N' (by k_mem)) (by assumption) (fun q hq => by first | exact List.Mem.tail _ (List.Mem.tail _ (List.Mem.tail _ (List.Mem.tail _ (List.Mem.tail _ (List.Mem.tail _ hq))))) | skip) ?_)); intro D' vs' n' h' tk' hr' F' N' no'; (try simp only [List.cons_append, List.nil_append] at N'); (try k_fold)))
  (k_with "call ref" => (k_here; (with_reducible show wpAny _ _ (call (Value.ref 177) _ _) _ _ _); refine StopC.out ?_))
  (k_with "call ref" => (k_here; (with_reducible show wpAny _ _ (call (Value.ref 172) _ _) _ _ _); refine StopC.out ?_))
  (k_with "call ref" => (k_here; (with_reducible show wpAny _ _ (call (Value.ref 153) _ _) _ _ _); refine StopC.out ?_))
  (k_with "compareOp Eq ref ref" => (k_here; (rename News _ _ _ _ => N'); (rename PairsIn _ _ (untiedOf _) => pp9); (k_dflt (refine eq_empty N' (by k_mem) (by k_mem) pp9 (room_caller0 _) ?_))))
  (k_with "compareOp Eq ref ref" => (k_here; (rename MkEq => g9); refine StopC.out ?_))
  (k_with "eval ListComp" => (k_here; refine StopC.out ?_))
  (k_with "CompRestT" => first
  | (refine CompRestT.succ ?_; intro v' I' oI' C' oC' D' m' h' tk' E' hv' hC' hx' F' N' off' ne'; (have e9 := Option.some.inj hv'.symm); dsimp only at e9; subst e9; clear hv')
  | refine CompRestT.zero ?_)
  (k_with "CompEnd" => (refine CompEnd.intro (by assumption) (by assumption) _ (fun p hp => hp) (by assumption) (by assumption) ?_))
  (k_with "FinE" => ((unfold LCg.FinE); intro D' h' tk' F' N' o1'; (try simp only [List.nil_append, List.cons_append] at N'); (try dsimp only)))
  (k_with "subscriptTail Name Slice ref ref" => (k_here; (with_reducible show wpAny _ _ (subscriptTail _ (PySem.Expr.Slice none none (some _) _) (Value.ref _) (Value.ref _)) _ _ _); (rename Fr _ _ _ _ => F'); (rename News _ _ _ _ => N'); (rename (_ = degsOf _) => hds9); (k_dflt (refine' krv_ints F' N' (isList_mem N' (by k_mem)) (IsPart.int _ _) (ints_of (by assumption) hds9) ?_ ?sx120 ?tx120 ?zx120; (case sx120 => with_unfolding_all rfl); (case tx120 => kmk_pure); (case zx120 => exact degs_fit (by assumption) hds9)); intro D' ws' h' F' N' l1 hI' hC'; (try k_lt l1); (try k_sweep))))
  (k_with "CompSrc" => (k_here; refine StopC.out ?_))
  (k_with "KCfEl" => (refine StopC.out ?_))
  (k_with "call type:bytes" => (k_here; refine StopC.out ?_))
  (k_with "compareOp Eq bytes bytes" => (k_here; refine StopC.out ?_))
  refine hd81 ⟨top_left, ?_⟩
  k_go0
  (all_goals try k_fold)
  rename Top _ _ _ _ _ _ => T9
  rename Below callerA _ _ _ => B9
  rename Frag.In _ _ => X9
  have H9 := here_top X9 T9 B9
  k_unmd
  try k_fold
  k_steps
  -- the round trip's way out
  all_goals first
    | (exfalso; (rename Trail _ _ _ => tr9); exact trip_out tr9 (by with_reducible assumption))
    | skip
  -- sorted
  unfold StopC
  rename (∀ p ∈ _, Prod.fst p ≠ _) => no1
  have a1 : @Ne Nat _ _ := no1 _ (.tail _ (.tail _ (.tail _ (.tail _ (.tail _ (.head _))))))
  clear no1
  rename (∀ p ∈ _, ∀ q ∈ _, Prod.fst p ≠ Prod.fst q) => no2
  have a2 : @Ne Nat _ _ := no2 _ (.tail _ (.tail _ (.head _))) _ (.head _)
  have a3 : @Ne Nat _ _ := no2 _ (.tail _ (.tail _ (.head _))) _ (.tail _ (.head _))
  have a4 : @Ne Nat _ _ := no2 _ (.tail _ (.tail _ (.head _))) _ (.tail _ (.tail _ (.head _)))
  rename (∀ p ∈ _, Prod.fst p ≠ _) => no1
  have a5 : @Ne Nat _ _ := no1 _ (.tail _ (.head _))
  clear no1
  rename (∀ p ∈ _, Prod.fst p ≠ _) => no1
  have a6 : @Ne Nat _ _ := no1 _ (.head _)
  clear no1
  dsimp only at a1 a2 a3 a4 a5 a6
  rename IntsAre _ (degsOf _) => iX
  rename Fr _ _ _ _ => F'
  rename News _ _ _ _ => N'
  refine kso_sorted F' N' (isList_mem N' (by k_mem)) iX (by exact (by decide : 6 < 64)) ?_
  intro D9 vs9 ns9 c9 h9 F9 N9 l9 i9 e9 p9 o9 b9
  have q9 : Ordr _ ns9 := ⟨p9, o9⟩
  have e6 : ns9.length = 6 := e9
  clear p9 o9 e9 b9
  rename (_ != _) = false => b9
  clear b9
  rename IntsAre _ (rowsOf _) => iJ
  clear iJ
  rename IntsAre _ (rowsOf _) => iR
  obtain ⟨ds, iD, hds⟩ := hide_ints iX
  obtain ⟨rs, iT, hrs⟩ := hide_ints iR
  clear iX iR
  have a7 : @Ne Nat _ _ := Nat.ne_of_lt (l9 _ (.tail _ (.tail _ (.tail _ (.tail _ (.tail _ (.tail _ (.head _))))))))
  dsimp only at a7
  clear F' N' l9
  have mIf := MkIf.mk
  k_unmd
  try k_fold
  k_steps
  -- Chvatal's test
  unfold StopC
  rename MkIf => mIf
  clear mIf
  rename Fr _ _ _ _ => F'
  rename News _ _ _ _ => N'
  refine if_same F' N' True ?h1 ?h2
  case h1 =>
    k_unmd
    try k_fold
    k_steps
    · rename Fr _ _ _ _ => F9
      rename News _ _ _ _ => N9
      exact After.mk F9 N9 (fun q hq => hq) trivial
    · unfold StopC
      rename Fr _ _ _ _ => F9
      refine ListComp_TT F9 (by with_unfolding_all rfl) (by decide) (by rfl) (by decide) (by rfl) ?_
      k_unmd
      try k_fold
      k_steps
      rename Fr _ _ _ _ => F9
      rename News _ _ _ _ => N9
      have S9 := tup_of N9
      refine CompSrcTT.mk rfl F9 N9 (.head _) (by rw [sizeLine_eq]; exact (by decide : 2 ≤ 16777216)) ?_
      intro g9
      change CompRestT _ _ _ _ _ _ _ _ _ _ _ _ _ _ _ _ 2 0 [] _
      clear F9 N9
      k_unmd
      try k_fold
      k_steps
      all_goals (first
        | ((rename Fr _ _ _ _ => F9); (rename News _ _ _ _ => N9); exact After.mk F9 N9 (fun q hq => List.Mem.tail _ (List.Mem.tail _ (List.Mem.tail _ hq))) trivial)
        | (exfalso; (rename Trail _ _ _ => tr9); (rename Ordr _ _ => q9); exact chv_out tr9 (by assumption) q9 (by assumption) (by first | exact .inl (by assumption) | exact .inr (by assumption)) (by first | exact .inl (by assumption) | exact .inr (by assumption))))
  clear F' N'
  intro h' tk' F' N' _
  dsimp only
  have mSure := MkSure.mk
  k_unmd
  try k_fold
  k_steps
  -- sure
  unfold StopC
  rename MkSure => mSure
  clear mSure
  rename Fr _ _ _ _ => F9
  rename News _ _ _ _ => N9
  rename Ordr _ _ => q9
  refine set_sure F9 N9 q9 ?h3 ?h4
  case h3 =>
    k_unmd
    try k_fold
    k_steps
    all_goals ((rename Fr _ _ _ _ => F9); (rename News _ _ _ _ => N9); first | (rw [sure1 (by with_reducible assumption)]; exact After.mk F9 N9 (fun q hq => hq) trivial) | (rw [sure2 (by with_reducible assumption)]; exact After.mk F9 N9 (fun q hq => hq) trivial))
  clear F9 N9
  intro h' tk' F' N'
  dsimp only
  have mIf := MkIf.mk
  k_unmd
  try k_fold
  k_steps
  -- nested
  unfold StopC
  rename MkIf => mIf
  clear mIf
  rename Fr _ _ _ _ => F'
  rename News _ _ _ _ => N'
  refine if_same F' N' True ?h5 ?h6
  case h5 =>
    k_unmd
    try k_fold
    k_steps
    all_goals (first
      | ((rename Fr _ _ _ _ => F9); (rename News _ _ _ _ => N9); exact After.mk F9 N9 (fun q hq => hq) trivial)
      | (exfalso; (rename Trail _ _ _ => tr9); (rename Ordr _ _ => q9); first
        | exact nest_out1 tr9 (by assumption) q9 (by with_reducible assumption) (by with_reducible assumption) (by with_reducible assumption)
        | exact nest_out2 tr9 (by assumption) q9 (by with_reducible assumption) (by with_reducible assumption) (by with_reducible assumption)))
  clear F' N'
  intro h' tk' F' N' _
  dsimp only
  k_unmd
  try k_fold
  k_steps
  -- best first
  unfold StopC
  rename Here _ _ _ _ _ _ _ _ _ _ => hereX
  rename Fr _ _ _ _ => F'
  rename News _ _ _ _ => N'
  rename Trail _ _ _ => tr9
  rename PairsIn _ _ _ => pt9
  rename (_ = rowsOf _) => hrs
  rename (_ = degsOf _) => hds
  have e1 := ints_by (by assumption) hrs
  have e2 := ints_by (by assumption) hds
  have m3 := isList_mem N' (.tail _ (.tail _ (.tail _ (.tail _ (.head _)))))
  have m2 := isList_mem N' (.tail _ (.tail _ (.tail _ (.tail _ (.tail _ (.tail _ (.head _)))))))
  have m1 := isList_mem N' (.tail _ (.tail _ (.tail _ (.tail _ (.tail _ (.tail _ (.tail _ (.head _))))))))
  k_dflt (refine best_at' hereX (by decide +kernel) (by decide +kernel) F' N' rfl rfl m1 e1 m2 e2 m3 pt9 (fun q hq => List.Mem.tail _ (List.Mem.tail _ (List.Mem.tail _ (List.Mem.tail _ (List.Mem.tail _ (List.Mem.tail _ (List.Mem.tail _ (List.Mem.tail _ (List.Mem.tail _ hq))))))))) tr9 ?_)
  clear F' N' m1 m2 m3
  intro h' tk' F' N'
  k_unmd
  try k_fold
  k_steps
  -- the sweeps
  unfold StopC
  rename Fr _ _ _ _ => F'
  rename News _ _ _ _ => N'
  have m2 := isList_mem N' (.tail _ (.tail _ (.tail _ (.tail _ (.tail _ (.tail _ (.head _)))))))
  have m1 := isList_mem N' (.tail _ (.tail _ (.tail _ (.tail _ (.tail _ (.tail _ (.tail _ (.head _))))))))
  k_dflt (refine swept_at hereX (by decide +kernel) (by decide +kernel) F' N' rfl rfl m1 e1 m2 e2 ?_)
  clear F' N' m1 m2 e1 e2
  intro g2 t2 l1' l2' vs1 n1 vs2 n2 h' tk' hr2 hc2 F' N' i1 i2
  obtain ⟨ds2, j2, hds2⟩ := hide_ints i2
  clear i2
  dsimp only
  k_unmd
  try k_fold
  k_steps
  -- the pairs left
  unfold StopC
  rename Fr _ _ _ _ => F'
  rename News _ _ _ _ => N'
  rename PairsIn _ _ (untiedOf _) => pp9
  have m1 := isList_mem N' (.tail _ (.head _))
  have sw := swept_same tr9 (by assumption) hr2 hc2
  k_dflt (refine untied_at hereX (by decide +kernel) (by decide +kernel) F' N' rfl rfl m1 i1 ?_)
  clear F' N' m1
  intro DU vsU nU h' tk' tlU F' N' noff off pin
  try simp only [List.cons_append] at N'
  have hL1 : h'.IsList _ _ := isList_mem N' (.tail _ (.tail _ (.tail _ (.tail _ (.tail _ (.tail _ (.tail _ (.tail _ (.tail _ (.head _))))))))))
  have hL2 : h'.IsList _ _ := isList_mem N' (.head _)
  have hP1 : PairsAt h' _ _ := pp9.at fun q hq => N' q (.tail _ (.tail _ (.tail _ (.tail _ (.tail _ (.tail _ (.tail _ (.tail _ (.tail _ (.tail _ (.tail _ (.tail _ (.tail _ (List.mem_append.mpr (.inl hq)))))))))))))))
  have hP2 : PairsAt h' _ _ := pin.at fun q hq => N' q (.tail _ (.tail _ (.tail _ (.tail _ (.tail _ (.tail _ (.tail _ (.tail _ (.tail _ (.tail _ (.tail _ (.tail _ (.tail _ (List.mem_append.mpr (.inr hq)))))))))))))))
  rw [sw.1] at hP2
  k_dflt (refine eq_pairs hL1 hL2 hP1 hP2 (room_caller _) ?_)
  clear hL1 hL2 hP1 hP2
  dsimp only
  k_unmd
  try k_fold
  k_steps
  -- the word
  unfold StopC
  rename Fr _ _ _ _ => F9
  refine LCg.ListComp_U F9 (by with_unfolding_all rfl) (by decide) (by rfl) (by decide) (by rfl) ?_
  k_unmd
  try k_fold
  k_steps
  unfold StopC
  rename Fr _ _ _ _ => F9
  rename News _ _ _ _ => N9
  rename (IntsAre _ (List.reverse _)) => hR
  refine LCg.CompSrc.ledger rfl F9 N9 (.head _) ?z ?c
  case z =>
    rw [List.size_toArray, hR.length, List.length_reverse]
    rename (_ = degsOf _) => hds9
    rw [hds9, degsOf_length, sizeLine_eq]; decide
  case c =>
    intro g9
    refine kcf_list (fun d => 65 + d) hR ?turn ?fin
    case turn =>
      intro k t I oI C oC D m₂ ys h tk E' hk hC hx F N off ne _
      clear F9 N9
      k_unmd
      try k_fold
      k_steps
      unfold StopC
      exact ⟨rfl, _, rfl⟩
    case fin =>
      unfold KPfDone
      intro ys hI
      clear F9 N9
      unfold LCg.FinE
      intro D' h' tk' F' N' o1'
      dsimp only
      k_unmd
      try k_fold
      k_steps
      unfold StopC
      rename Fr _ _ _ _ => F9
      rename News _ _ _ _ => N9
      rename (_ = degsOf _) => hds9
      rename (KBw.bInts _ = wordL _) => hv9
      have hin := word_in hds9
      have hln := word_len hds9
      have e9 := word_bytes hds9 hv9 sw.2
      refine KBa.make_K F9 N9 rfl (isList_mem N9 (.head _)) hI hin hln ?_
      intro h' t' k' F' N' _
      dsimp only
      k_unmd
      try k_fold
      k_steps
      unfold StopC
      refine eq_bytes ?_
      rw [e9]
      k_unmd
      try k_fold
      k_steps
end

end Net81

theorem PySem.Challenge.cw_wn0081_01_holds : PySem.Challenge.rw_wn0081_01.Holds := by
  exact Net81.law_holds
