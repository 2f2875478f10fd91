import PyProof.Rows.All
import Wide.All
import OpenK.AllK
import Wide.FinOn
import PySem.Challenge.RW_ah5001_01
open PySem PySem.W PyProof.Rows
set_option Elab.async false
set_option maxRecDepth 100000
set_option maxHeartbeats 0
namespace Mine
open_top hd for PySem.Challenge.rw_ah5001_01
open PySem PySem.Spec PySem.Calls PyProof.Rows PySem.W

/-- what a function that only makes new things hands back -/
def RetP (Post : Heap → Heap → Value → Prop) (g : Heap) (s : Shared) (v : Value) (s' : Shared) : Prop :=
  ∃ h' tk', s' = { s with heap := h', toks := tk' } ∧ g.StaysIn h' ∧ Post g h' v
theorem RetP.intro {Post : Heap → Heap → Value → Prop} {g h' : Heap} {s : Shared} {v : Value} {tk' : Nat} (k : g.StaysIn h') (p : Post g h' v) :
    RetP Post g s v { s with heap := h', toks := tk' } := ⟨h', tk', rfl, k, p⟩

def Does (prog : Program) (w : World) (K : Frag) (p : Program) (loose : List Str) (mean : ExcName → Option Value) (mg mb : Str → Option Value)
    (f : Addr) (dep : Nat) (vs : List Value) (Pre : Heap → Prop) (Post : Heap → Heap → Value → Prop) : Prop :=
  ∀ (dp un : Nat) (gd : Option (List Code)) (cn : Str) (cs : Scope) (L a : Addr) (ccd : Value) (cl : List (Str × Addr)) (outer : List Env) (A₀ : Around) (base h₀ : Heap)
    (m : Str → Option Value) (s : Shared) (Q E : Value → Shared → Prop),
    Below A₀ base outer h₀ → Fr h₀ L s.heap m → K.In h₀ → Top p loose mean mg mb h₀ → cs.kind = .function → dp + dep < recursionLimit → un + 8 * dep < cLine → Pre s.heap →
    (∀ r h' tk', s.heap.StaysIn h' → Post s.heap h' r → Q r { s with heap := h', toks := tk' }) →
    wpAny (model prog w) (ktrTop dp un gd cn cs L a ccd cl outer) (call (.ref f) vs) Q E s

section
variable {prog : Program} {w : World} {K : Frag} {p : Program} {loose : List Str} {mean : ExcName → Option Value} {mg mb : Str → Option Value}
  {name qual : Str} {params : Arguments} {body : List Stmt} {scope : Scope} {dV kV doc pm cdv ct oc : Value} {an od : Option Addr} {osl : Array (Option Value)} {f : Addr} {vs : List Value} {binds : List (Str × Value)}
  {Pre : Heap → Prop} {Post : Heap → Heap → Value → Prop} {dep : Nat}

theorem does_of 
    (ho : K.lookup f = some ⟨oc, od, .func (fnOf name qual params body scope dV kV doc pm an cdv ct), osl⟩) (hcd : codeIn K cdv qual = true)
    (hbind : ∀ s : Shared, K.In s.heap → BindsTo s (fnOf name qual params body scope dV kV doc pm an cdv ct) ⟨vs, []⟩ binds) (hloc : ∀ y ∈ binds, scope.names.lookup y.1 = some .local)
    (h : ∀ (dp un : Nat) (gd : Option (List Code)) (cn : Str) (cs : Scope) (L a : Addr) (ccd : Value) (cl : List (Str × Addr)) (outer : List Env) (base : Heap) (s : Shared)
      (g : Heap) (L' : Addr) (h₁ : Heap), dp + dep < recursionLimit → un + 8 * dep < cLine → Pre g → Fr g L' h₁ (fun y => binds.reverse.lookup y) → News g L' h₁ [] →
      Below (ktrTop dp un gd cn cs L a ccd cl outer) base (envX cn cs L a ccd cl :: outer) g → K.In g → Top p loose mean mg mb g → cs.kind = .function →
      wpAny (model prog w) ((ktrTop dp un gd cn cs L a ccd cl outer).deeper (envOf qual scope L' f cdv)) (execs body (envOf qual scope L' f cdv))
        (fun fl s' => RetP Post g s (match fl with | .ret v => v | _ => .none) s')
        (fun _ _ => False)
        { s with heap := h₁, toks := s.toks + binds.length })
    (hco : scope.isCoroutine = false) (hgen : scope.isGenerator = false) (hk : scope.kind = .function)
    (hcell : ∀ x ∈ scope.names, x.2 ≠ .cell) (hdep : 0 < dep) : Does prog w K p loose mean mg mb f dep vs Pre Post := by
  intro dp un gd cn cs L a ccd cl outer A₀ base h₀ m s Q E B F X₀ T hck hdp hun hpre hret
  have X := X₀.keeps F.keep
  have T' := T.keeps F.keep
  refine wpAny_call ?_
  refine codeAny_call_def (fd := fnOf name qual params body scope dV kV doc pm an cdv ct) (body := body) (binds := binds) (by show dp < recursionLimit; omega) (X _ _ ho) rfl T'.nolimit (codeRec_of X hcd) rfl (hbind s X) hcell hloc (fun h₁ hns hk₁ => ?_) hco hgen hk
  have F' : Fr s.heap s.heap.objs.size h₁ (fun y => binds.reverse.lookup y) := ⟨hns, hk₁, Nat.le_refl _⟩
  have B' := pushX (env := envX cn cs L a ccd cl) B F rfl hck
  have B'' : Below (ktrTop dp un gd cn cs L a ccd cl outer) base (envX cn cs L a ccd cl :: outer) s.heap := ⟨rfl, B'.stays, B'.frames⟩
  refine wpAny_mono (h dp un gd cn cs L a ccd cl outer base s s.heap _ h₁ hdp hun hpre F' News.nil B'' X T' hck) (fun fl s' hl => ?_) fun _ _ y => y.elim
  obtain ⟨h', tk', rfl, st, po⟩ := hl
  exact hret _ _ _ st po

def DoesWith (_ : List (Str × Value)) (P : Prop) : Prop := P
theorem does_with {P : Prop} (binds : List (Str × Value)) (h : DoesWith binds P) : P := h
theorem does_of' 
    (ho : K.lookup f = some ⟨oc, od, .func (fnOf name qual params body scope dV kV doc pm an cdv ct), osl⟩) (hcd : codeIn K cdv qual = true)
    (hbind : ∀ s : Shared, K.In s.heap → BindsTo s (fnOf name qual params body scope dV kV doc pm an cdv ct) ⟨vs, []⟩ binds) (hloc : ∀ y ∈ binds, scope.names.lookup y.1 = some .local)
    (h : ∀ (dp un : Nat) (gd : Option (List Code)) (cn : Str) (cs : Scope) (L a : Addr) (ccd : Value) (cl : List (Str × Addr)) (outer : List Env) (base : Heap) (s : Shared)
      (g : Heap) (L' : Addr) (h₁ : Heap), dp + dep < recursionLimit → un + 8 * dep < cLine → Pre g → Fr g L' h₁ (fun y => binds.reverse.lookup y) → News g L' h₁ [] →
      Below (ktrTop dp un gd cn cs L a ccd cl outer) base (envX cn cs L a ccd cl :: outer) g → K.In g → Top p loose mean mg mb g → cs.kind = .function →
      wpAny (model prog w) ((ktrTop dp un gd cn cs L a ccd cl outer).deeper (envOf qual scope L' f cdv)) (execs body (envOf qual scope L' f cdv))
        (fun fl s' => RetP Post g s (match fl with | .ret v => v | _ => .none) s')
        (fun _ _ => False)
        { s with heap := h₁, toks := s.toks + binds.length })
    (hco : scope.isCoroutine = false) (hgen : scope.isGenerator = false) (hk : scope.kind = .function)
    (hcell : ∀ x ∈ scope.names, x.2 ≠ .cell) (hdep : 0 < dep) : DoesWith binds (Does prog w K p loose mean mg mb f dep vs Pre Post) := does_of ho hcd hbind hloc h hco hgen hk hcell hdep

theorem does_ofC
    (ho : K.lookup f = some ⟨oc, od, .func (fnOf name qual params body scope dV kV doc pm an cdv ct), osl⟩) (hcd : codeIn K cdv qual = true)
    (hbind : ∀ s : Shared, K.In s.heap → BindsTo s (fnOf name qual params body scope dV kV doc pm an cdv ct) ⟨vs, []⟩ binds)
    (hkind : (binds.all fun y => scope.names.lookup y.1 == some .local || scope.names.lookup y.1 == some .cell) = true) (hnd : ((cellsFrom 0 scope.names []).map (·.1)).Nodup)
    (h : ∀ (dp un : Nat) (gd : Option (List Code)) (cn : Str) (cs : Scope) (L a : Addr) (ccd : Value) (cl : List (Str × Addr)) (outer : List Env) (base : Heap) (s : Shared)
      (g : Heap) (L' : Addr) (h₁ : Heap) (tk : Nat) (cells : List (Addr × Obj)), dp + dep < recursionLimit → un + 8 * dep < cLine → Pre g → Fr g L' h₁ (bindL (envOfC qual scope L' f cdv).kindOf binds fun _ => none) → News g L' h₁ cells →
      CellsAre (bindC (envOfC qual scope L' f cdv).kindOf binds fun _ => none) (cellsFrom (L' + 1) scope.names []) cells →
      Below (ktrTop dp un gd cn cs L a ccd cl outer) base (envX cn cs L a ccd cl :: outer) g → K.In g → Top p loose mean mg mb g → cs.kind = .function →
      wpAny (model prog w) ((ktrTop dp un gd cn cs L a ccd cl outer).deeper (envOfC qual scope L' f cdv)) (execs body (envOfC qual scope L' f cdv))
        (fun fl s' => RetP Post g s (match fl with | .ret v => v | _ => .none) s')
        (fun _ _ => False)
        { s with heap := h₁, toks := tk })
    (hco : scope.isCoroutine = false) (hgen : scope.isGenerator = false) (hk : scope.kind = .function) (hdep : 0 < dep) : DoesWith binds (Does prog w K p loose mean mg mb f dep vs Pre Post) := by
  intro dp un gd cn cs L a ccd cl outer A₀ base h₀ m s Q E B F X₀ T hck hdp hun hpre hret
  have X := X₀.keeps F.keep
  have T' := T.keeps F.keep
  refine wpAny_call ?_
  refine codeAny_call_function (fd := fnOf name qual params body scope dV kV doc pm an cdv ct) (by show dp < recursionLimit; omega) (X _ _ ho) rfl hco hgen rfl (codeRec_of X hcd) (hbind s X _ _ _ _ ?_)
  refine wpAny_newFunctionEnv_cells hk (kindsX hkind _) fun env' he s' x => ?_
  subst he
  refine ⟨T'.nolimit.keeps x.toInCall.keep, codeAny_func ?_⟩
  obtain ⟨h₁, tk, rfl, _⟩ := x.done
  have hk₁ := x.toInCall.keep
  obtain ⟨cells, NC, Y⟩ := Cl.news (h₀ := s.heap) (Nat.le_refl _) fun n c hm => ⟨x.cell n c (lookup_of_mem_nodup (cellsFrom_names scope.names 0 (s.heap.objs.size + 1) [] [] rfl ▸ hnd) hm), x.above n c hm⟩
  have B' := pushX (env := envX cn cs L a ccd cl) B F rfl hck
  have B'' : Below (ktrTop dp un gd cn cs L a ccd cl outer) base (envX cn cs L a ccd cl :: outer) s.heap := ⟨rfl, B'.stays, B'.frames⟩
  refine wpAny_mono (h dp un gd cn cs L a ccd cl outer base s s.heap s.heap.objs.size h₁ tk cells hdp hun hpre ⟨x.toInCall.ns, hk₁, Nat.le_refl _⟩ NC Y B'' X T' hck) (fun fl s' hl => ?_) fun _ _ y => y.elim
  obtain ⟨h', tk', rfl, st, po⟩ := hl
  exact hret _ _ _ st po

theorem does_use {h₀ : Heap} {L : Addr} {m : Str → Option Value} {news : List (Addr × Obj)} {s : Shared} {A₀ : Around} {base : Heap} {outer : List Env} {dp un : Nat} {gd : Option (List Code)} {cn : Str} {cs : Scope} {a : Addr} {ccd : Value} {cl : List (Str × Addr)}
    {Q E : Value → Shared → Prop} (D : Does prog w K p loose mean mg mb f dep vs Pre Post)
    (B : Below A₀ base outer h₀) (F : Fr h₀ L s.heap m) (X : K.In h₀) (N : News h₀ L s.heap news) (T : Top p loose mean mg mb h₀) (hk : cs.kind = .function) (hd : dp + dep < recursionLimit) (hu : un + 8 * dep < cLine) (hp : Pre s.heap)
    (hret : ∀ r h' tk', s.heap.StaysIn h' → Post s.heap h' r → Fr h₀ L h' m → News h₀ L h' news → Q r { s with heap := h', toks := tk' }) :
    wpAny (model prog w) (ktrTop dp un gd cn cs L a ccd cl outer) (call (.ref f) vs) Q E s :=
  D dp un gd cn cs L a ccd cl outer A₀ base h₀ m s Q E B F X T hk hd hu hp fun r h' tk' st po =>
    hret r h' tk' st po ⟨let ⟨o, es, ep, hL, r⟩ := F.ns; ⟨o, es, ep, st _ _ hL, r⟩, fun b o e => st b o (F.keep b o e), F.above⟩ fun q hq => ⟨st _ _ (N q hq).1, (N q hq).2⟩
end

abbrev Dz (w : World) (mean : ExcName → Option Value) (mg mb : Str → Option Value) (f : Addr) (dep : Nat) (vs : List Value) (Pre : Heap → Prop) (Post : Heap → Heap → Value → Prop) : Prop :=
  Does PySem.Challenge.rw_ah5001_01.row.prog w (hd.heap_39 w.params) hd.view_39 (looseW hd.view_39 [Str.ofString "small_numeral", Str.ofString "numeral", Str.ofString "round_digits"]) mean mg mb f dep vs Pre Post
section WT
-- texts as lists of codes
def mkS (l : List Nat) : PySem.Str := ⟨l.toArray⟩
theorem mkS_len (l : List Nat) : (mkS l).length = l.length := by simp [mkS, PySem.Str.length]
theorem mkS_cps (l : List Nat) : (mkS l).cps.toList = l := rfl
theorem mkS_inj {a b : List Nat} (h : mkS a = mkS b) : a = b := by
  have := congrArg (fun x : PySem.Str => x.cps.toList) h
  exact this
theorem mkS_app (a b : List Nat) : mkS a ++ mkS b = mkS (a ++ b) := PySem.Str.ext' (Array.toList_inj.mp (by rw [PySem.Str.cps_append, Array.toList_append]; rfl))
theorem item_mkS {l : List Nat} {i : Int} (h0 : 0 ≤ i) (h1 : i < l.length) : Txt.item (mkS l) i = mkS [l.getD i.toNat 0] := by
  have e : Txt.charAt (mkS l) i = some (l.getD i.toNat 0) := by
    have hn : i.toNat < l.length := by omega
    have e1 : seqIndex? i (mkS l).length = some i.toNat := by
      rw [mkS_len]
      unfold seqIndex?
      rw [if_neg (Int.not_lt.mpr h0)]
      simp [h0, h1]
    unfold Txt.charAt
    rw [e1]
    show (mkS l).cps[i.toNat]? = _
    have : (mkS l).cps[i.toNat]? = l[i.toNat]? := by simp [mkS]
    rw [this, List.getD_eq_getElem?_getD, List.getElem?_eq_getElem hn]
    rfl
  unfold Txt.item
  rw [e]
  rfl
theorem slice_mkS {l : List Nat} {i j : Int} (h0 : 0 ≤ i) (h1 : i ≤ j) (h2 : j ≤ l.length) : Txt.slice (mkS l) (some i) (some j) = mkS ((l.drop i.toNat).take (j - i).toNat) :=
  eq_of_beq (slice_closesL (x := mkS l) h0 h1 (by rw [mkS_len]; exact h2))
theorem slice_to_mkS {l : List Nat} {j : Int} (h0 : 0 ≤ j) (h2 : j ≤ l.length) : Txt.slice (mkS l) none (some j) = mkS (l.take j.toNat) := by
  have := eq_of_beq (slice_closes_toL (x := mkS l) h0 (by rw [mkS_len]; exact h2))
  rw [this]
  show mkS ((l.drop 0).take (j - 0).toNat) = _
  rw [List.drop_zero, Int.sub_zero]
theorem mul_mkS {c : Nat} {n : Int} (h : 0 ≤ n) : Txt.mul (mkS [c]) n = mkS (List.replicate n.toNat c) := by
  have fold : ∀ (k : Nat) (acc : Array Nat), (List.replicate k (#[c] : Array Nat)).foldl (· ++ ·) acc = acc ++ (List.replicate k c).toArray := by
    intro k
    induction k with
    | zero => intro acc; simp
    | succ k ih => intro acc; rw [List.replicate_succ, List.foldl_cons, ih, List.replicate_succ, Array.append_assoc]; congr 1; simp
  unfold Txt.mul
  by_cases h1 : n < 1
  · rw [if_pos h1]
    have : n.toNat = 0 := by omega
    rw [this]; rfl
  · rw [if_neg h1]
    by_cases h2 : n = 1
    · subst h2; rfl
    · rw [if_neg (by
        have e1 : (n == 1) = false := beq_eq_false_iff_ne.mpr h2
        rw [e1]; simp [mkS, PySem.Str.length])]
      show PySem.Str.mk _ = PySem.Str.mk _
      congr 1
      have := fold n.toNat #[]
      simpa [mkS] using this
theorem join_mkS (ls : List (List Nat)) : Txt.join (PySem.Str.ofString "") (ls.map mkS) = mkS ls.flatten := by
  have e0 : PySem.Str.ofString "" = mkS [] := by decide
  show Builtin.Str.glued _ _ = _
  rw [StrLaws.glued_eq_join, e0]
  have go : ∀ ls : List (List Nat), PySem.Str.join (mkS []) (ls.map mkS) = mkS ls.flatten := by
    intro ls
    induction ls with
    | nil => rfl
    | cons a r ih =>
      cases r with
      | nil => simp [PySem.Str.join]
      | cons b r =>
        show mkS a ++ mkS [] ++ PySem.Str.join (mkS []) ((b :: r).map mkS) = _
        rw [ih, mkS_app, mkS_app, List.append_nil, List.flatten_cons (l := a)]
  exact go ls

def sd : List Nat := [48, 49, 50, 51, 52, 53, 54, 55, 56, 57, 97, 98, 99, 100, 101, 102, 103, 104, 105, 106, 107, 108, 109, 110, 111, 112, 113, 114, 115, 116, 117, 118, 119, 120, 121, 122]
def hx : List Nat := [48, 49, 50, 51, 52, 53, 54, 55, 56, 57, 97, 98, 99, 100, 101, 102]
theorem std_eq : PySem.Str.ofString "0123456789abcdefghijklmnopqrstuvwxyz" = mkS sd := by decide +kernel
theorem hex_eq : PySem.Str.ofString "0123456789abcdef" = mkS hx := by decide +kernel
def dig (d : Int) : Nat := sd.getD d.toNat 0
def txt (ds : List Int) : PySem.Str := mkS (ds.map dig)
theorem dig_hx {d : Int} (h : 0 ≤ d ∧ d < 16) : hx.getD d.toNat 0 = dig d := by
  have go : ∀ n : Nat, n < 16 → hx.getD n 0 = sd.getD n 0 := by decide
  exact go _ (by omega)
theorem txt_len (ds : List Int) : (txt ds).length = ds.length := by rw [txt, mkS_len, List.length_map]

section
variable {prog : Program} {w : World} {A : Around} {E : Value → Shared → Prop} {s : Shared} {value slice : PySem.Expr} {x y : PySem.Str} {t u : Tok} {i j : Int} {l l' : List Nat} {Q : Value → Shared → Prop} {h₀ : Heap} {L : Addr} {m : PySem.Str → Option Value} {news : List (Addr × Obj)}
theorem r_item (hx : x = mkS l) (hn : l.length ≤ 1000) (h0 : 0 ≤ i) (h1 : i < l.length) (h : Q (.str (mkS [l.getD i.toNat 0]) s.toks) { s with toks := s.toks + 1 })
    (hs : subscripted slice false (.str x t) (.int i u) = operate [.str x t, .int i u] (getItem (.str x t) (.int i u)))
    (ht : ∀ r, letTemporaryGo value (.str x t) r = pure ()) :
    wpAny (model prog w) A (subscriptTail value slice (.str x t) (.int i u)) Q E s := by
  subst hx
  refine KXi.item (n := l.length) (mkS_len l) (by omega) h1 (by omega) (fun _ => ?_) hs ht
  rw [item_mkS h0 h1]; exact h
theorem r_add (hx : x = mkS l) (hy : y = mkS l') (hn : l.length ≤ 1000) (hn' : l'.length ≤ 1000) (h : ∀ t' k, Q (.str (mkS (l ++ l')) t') { s with toks := k }) : wpAny (model prog w) A (binaryOp .Add (.str x t) (.str y u)) Q E s := by
  subst hx; subst hy
  refine KOpn.add (by rw [mkS_len, mkS_len]; omega) fun t' k _ => ?_
  rw [mkS_app]; exact h t' k
theorem r_mul {c : Nat} (hx : x = mkS [c]) (h0 : 0 ≤ i) (h1 : i ≤ 1000) (h : ∀ t' k, Q (.str (mkS (List.replicate i.toNat c)) t') { s with toks := k }) : wpAny (model prog w) A (binaryOp .Mult (.str x t) (.int i u)) Q E s := by
  subst hx
  refine KXi.mul (n := 1) (mkS_len _) (by decide) (by omega) (by omega) fun t' k _ _ => ?_
  rw [mul_mkS h0]; exact h t' k
theorem r_slice_to {uj : Tok} (hx : x = mkS l) (hn : l.length ≤ 1000) (F : Fr h₀ L s.heap m) (N : News h₀ L s.heap news) (h0 : 0 ≤ j) (h2 : j ≤ l.length)
    (h : ∀ h' t' k, Fr h₀ L h' m → News h₀ L h' news → Q (.str (mkS (l.take j.toNat)) t') { s with heap := h', toks := k })
    (hs : subscripted slice false (.str x t) (.ref s.heap.objs.size) = operate [.ref s.heap.objs.size, .str x t] (getItem (.str x t) (.ref s.heap.objs.size)))
    (ht : ∀ r, letTemporaryGo value (.str x t) r = pure ()) :
    wpAny (model prog w) A (subscriptTail value slice (.str x t) (.ref s.heap.objs.size)) Q E { s with heap := s.heap.push { cls := .type "slice", data := .fields #[.none, .int j uj, .none] } } := by
  subst hx
  refine slice_strN_ns F N (fun h' t' k F' N' => ?_) hs ht (by rw [mkS_len, sizeLine_eq]; omega)
  rw [slice_to_mkS h0 h2]; exact h h' t' k F' N'
theorem r_slice {ui uj : Tok} (hx : x = mkS l) (hn : l.length ≤ 1000) (F : Fr h₀ L s.heap m) (N : News h₀ L s.heap news) (h0 : 0 ≤ i) (h1 : i ≤ j) (h2 : j ≤ l.length)
    (h : ∀ h' t' k, Fr h₀ L h' m → News h₀ L h' news → Q (.str (mkS ((l.drop i.toNat).take (j - i).toNat)) t') { s with heap := h', toks := k })
    (hs : subscripted slice false (.str x t) (.ref s.heap.objs.size) = operate [.ref s.heap.objs.size, .str x t] (getItem (.str x t) (.ref s.heap.objs.size)))
    (ht : ∀ r, letTemporaryGo value (.str x t) r = pure ()) :
    wpAny (model prog w) A (subscriptTail value slice (.str x t) (.ref s.heap.objs.size)) Q E { s with heap := s.heap.push { cls := .type "slice", data := .fields #[.int i ui, .int j uj, .none] } } := by
  subst hx
  refine slice_strN_ss F N (fun h' t' k F' N' => ?_) hs ht (by rw [mkS_len, sizeLine_eq]; omega)
  rw [slice_mkS h0 h1 h2]; exact h h' t' k F' N'
theorem r_len (hx : x = mkS l) (hn : l.length ≤ 1000) (h : Q (.int (l.length : Int) (s.toks + 1)) { s with toks := s.toks + 1 + 1 }) : wpAny (model prog w) A (call (.builtin "len") [.str x t]) Q E s := by
  subst hx
  refine P.len_str (by rw [mkS_len]; omega) ?_
  rw [mkS_len]; exact h
end

theorem mulok {a b : Int} {m n : Nat} (ha : Builtin.Int.intBits a ≤ m) (hb : Builtin.Int.intBits b ≤ n) (h : m + n ≤ 2 ^ 27) : IntMulOk a b := by
  unfold IntMulOk
  intro hh
  have h1 := (Bool.and_eq_true_iff.mp hh).2
  unfold Builtin.Int.intTooBig at h1
  have h2 := of_decide_eq_true h1
  have e : (Builtin.Int.intBits a : Int) + Builtin.Int.intBits b ≤ 2 ^ 27 := by
    have e27 : (2 : Int) ^ 27 = 134217728 := by decide
    rw [e27]
    have : (2 : Nat) ^ 27 = 134217728 := by decide
    omega
  exact absurd h2 (Int.not_lt.mpr e)
theorem bits_lt {x : Int} {m : Nat} (h : x.natAbs < 2 ^ m) : Builtin.Int.intBits x ≤ m := intBits_le_iff.mpr h
theorem zero_eq : PySem.Str.ofString "0" = mkS [48] := by decide
theorem one_eq : PySem.Str.ofString "1" = mkS [49] := by decide
theorem minus_eq : PySem.Str.ofString "-" = mkS [45] := by decide
theorem txt_eq (ds : List Int) : txt ds = mkS (ds.map dig) := rfl
theorem sd_len : sd.length = 36 := rfl
theorem hx_len : hx.length = 16 := rfl

end WT
section WD
-- what is due (whole numbers alone)
def Dir (rnd : PySem.Str) (minus : Bool) (dir : Nat) : Prop :=
  (rnd = PySem.Str.ofString "n" ∧ dir = 2) ∨ (rnd = PySem.Str.ofString "f" ∧ minus = false ∧ dir = 0) ∨ (rnd = PySem.Str.ofString "f" ∧ minus = true ∧ dir = 1) ∨
  (rnd = PySem.Str.ofString "c" ∧ minus = false ∧ dir = 1) ∨ (rnd = PySem.Str.ofString "c" ∧ minus = true ∧ dir = 0) ∨ (rnd = PySem.Str.ofString "d" ∧ dir = 0) ∨ (rnd = PySem.Str.ofString "u" ∧ dir = 1)
def isUp (dir : Nat) (last whole rest : Int) : Prop := (dir = 1 ∧ 0 < rest) ∨ (dir = 2 ∧ (last < 2 * rest ∨ (2 * rest = last ∧ whole % 2 = 1)))
theorem isUp_dec (dir : Nat) (last whole rest : Int) : isUp dir last whole rest ∨ ¬ isUp dir last whole rest := Classical.em _
open Classical in
noncomputable def due (dir : Nat) (last whole rest : Int) : Int := if isUp dir last whole rest then whole + 1 else whole
theorem noPy_pow {b : Int} {k : Nat} (hb : 2 ≤ b ∧ b ≤ 16) (hk : k ≤ 200) (a : Int) : Builtin.divisionGoesByPylong a (b ^ k) = false := by
  refine PyProof.noPylong_of_log2 ?_
  have h1 : Builtin.Int.intBits (b ^ k) ≤ 5 * k + 1 := intBits_pow_le (m := 5) (bits_lt (by omega)) k
  have h2 := intBits_le_iff.mp h1
  have h3 : 0 < b ^ k := Int.pow_pos (by omega)
  have h4 : (b ^ k).natAbs ≠ 0 := by omega
  have := (Nat.log2_lt h4).mpr h2
  omega
theorem noPy_small {b : Int} (hb : 2 ≤ b ∧ b ≤ 16) (a : Int) : Builtin.divisionGoesByPylong a b = false := PyProof.noPylong_small (by omega)
theorem r_divmod {prog : Program} {w : World} {A : Around} {E : Value → Shared → Prop} {s : Shared} {a b : Int} {t u : Tok} {Q : Value → Shared → Prop} {h₀ : Heap} {L : Addr} {m : PySem.Str → Option Value} {news : List (Addr × Obj)} (F : Fr h₀ L s.heap m) (N : News h₀ L s.heap news) (hb : 2 ≤ b ∧ b ≤ 16)
    (h : ∀ D h' t1 t2 k, Fr h₀ L h' m → News h₀ L h' ((D, { cls := .type "tuple", data := .seq #[.int (a.fdiv b) t1, .int (a.fmod b) t2] }) :: news) → (∀ p ∈ news, p.1 < D) → 0 ≤ a.fmod b → a.fmod b < b →
      Q (.ref D) { s with toks := k, heap := h' }) :
    wpAny (model prog w) A (call (.builtin "divmod") [.int a t, .int b u]) Q E s :=
  divmod_N F N (by omega) (fun h' F' N' => h _ h' _ _ _ F' N' (fun p hp => Heap.lt_size (N p hp).1) (Int.fmod_nonneg_of_pos _ (by omega)) (Int.fmod_lt_of_pos _ (by omega))) (Or.inl (noPy_small hb _))

end WD
section WI
-- int(text, base) of a text of one sign
open PySem.NumText in
theorem wp_textB {M : Model} {A : Around} {E : Value → Shared → Prop} {s : Shared} {Q : Value → Shared → Prop} {v : Value} {text : List Nat} {b : Nat} {n : Int}
    (hs : (text.takeWhile (· != 0)).length ≤ 640) (hr : (int_private% "readNumeral") 0 b (text.takeWhile (· != 0)) = (int_private% "Numeral.value") n)
    (ha : ((text.takeWhile (· != 0)).length == text.length) = true) (h : Q (.int n s.toks) { s with toks := s.toks + 1 }) :
    wpAny M A ((int_private% "intFromText") v text b) Q E s := by
  obtain ⟨hp, g, d, tk, os⟩ := s
  repeat (any_goals (first
    | assumption
    | (with_reducible refine wpAny_ite_true (decide_eq_true hs) ?_)
    | (with_reducible refine wpAny_ite_true (decide_eq_true ha) ?_)
    | wp_step))
  all_goals (try rw [hr])
  all_goals (try dsimp only)
  repeat (any_goals (first
    | assumption
    | (with_reducible refine wpAny_ite_true (decide_eq_true hs) ?_)
    | (with_reducible refine wpAny_ite_true (decide_eq_true ha) ?_)
    | wp_step))
open PySem.NumText in
theorem gives_textB {x : PySem.Str} {u v : Tok} {b n : Int} (hb : ((b != 0 && decide (b < 2)) || decide (b > 36)) = false) (hs : (numSeenOf x).length ≤ 640) (hr : (int_private% "readNumeral") 0 b.toNat (numSeenOf x) = (int_private% "Numeral.value") n)
    (ha : ((numSeenOf x).length == (numTextOf x).length) = true) : Gives (Builtin.«int.__new__» ⟨[.type "int", .str x u, .int b v], []⟩) (.int n) :=
  .of_wp fun M A E s Q h => by
    obtain ⟨hp, g, d, tk, os⟩ := s
    have f1 := F.conv_sub_int
    have f2 := F.madeHere_int
    have f6 : typeOf (.str x u) = pure (.type "str") := rfl
    have f7 : typeOf (.int b v) = pure (.type "int") := rfl
    have hk := KIN.Hid.mk (And.intro hs (And.intro hr ha))
    clear hs hr ha
    repeat (any_goals (first
      | assumption
      | ((with_reducible show wpAny _ _ ((int_private% "intFromText") _ _ _) _ _ _); refine wp_textB hk.out.1 hk.out.2.1 hk.out.2.2 ?_)
      | (with_reducible refine wpAny_ite_false hb ?_)
      | wp_step))
    all_goals first | exact ⟨_, rfl, h⟩ | skip
theorem newCall_int_2 (a b : Value) : checkBuiltinCall "int.__new__" ⟨[.type "int", a, b], []⟩ = pure () := by kernel_rfl
theorem typeCall_int_2 (a b : Value) : checkTypeCall "int" ⟨[a, b], []⟩ = pure () := by kernel_rfl
theorem args_init_3 (a b c : Value) : argsOk "object.__init__" ⟨[a, b, c], []⟩ := by
  first | exact F.args_object_init_3 a b c | decide +kernel | kernel_rfl
theorem seen_one {c : Nat} (h0 : c ≠ 0) (h : c < 128) : PySem.numSeenOf (mkS [c]) = [c] ∧ PySem.numTextOf (mkS [c]) = [c] := by
  have e : PySem.numTextOf (mkS [c]) = [c] := by
    show (if (#[c] : Array Nat).all (· < 128) = true then [c] else _) = [c]
    rw [if_pos (by simp [h])]
  refine ⟨?_, e⟩
  show (PySem.numTextOf (mkS [c])).takeWhile (· != 0) = [c]
  rw [e]
  simp [h0]
open PySem.NumText in
theorem read_one {b : Nat} (hb : b = 2 ∨ b = 8 ∨ b = 10 ∨ b = 16) (n : Nat) (hn : n < b) : (int_private% "readNumeral") 0 b [sd.getD n 0] = (int_private% "Numeral.value") (n : Int) := by
  rcases hb with rfl | rfl | rfl | rfl
  all_goals (rcases n with _ | _ | _ | _ | _ | _ | _ | _ | _ | _ | _ | _ | _ | _ | _ | _ | n <;> first | rfl | omega)
theorem dig_ok {d : Int} (h : 0 ≤ d ∧ d < 16) : dig d ≠ 0 ∧ dig d < 128 := by
  have go : ∀ n : Nat, n < 16 → sd.getD n 0 ≠ 0 ∧ sd.getD n 0 < 128 := by decide
  exact go _ (by omega)
section
variable {prog : Program} {w : World} {A : Around} {E : Value → Shared → Prop} {s : Shared} {x : PySem.Str} {t u : Tok} {b d : Int} {c : Nat} {Q : Value → Shared → Prop}
theorem r_int (hx : x = mkS [c]) (hc : c = dig d) (hb : b = 2 ∨ b = 8 ∨ b = 10 ∨ b = 16) (hd : 0 ≤ d ∧ d < b) (h : 0 ≤ d ∧ d < b → Q (.int d s.toks) { s with toks := s.toks + 1 }) :
    wpAny (model prog w) A (call (.type "int") [.str x t, .int b u]) Q E s := by
  subst hx; subst hc
  have h16 : 0 ≤ d ∧ d < 16 := by omega
  have hz := seen_one (dig_ok h16).1 (dig_ok h16).2
  have hr := read_one (b := b.toNat) (by rcases hb with rfl | rfl | rfl | rfl <;> decide) d.toNat (by omega)
  have e : ((d.toNat : Nat) : Int) = d := by omega
  rw [e] at hr
  refine callType_new F.called_int F.newNe_int (typeCall_int_2 _ _) (newCall_int_2 _ _) (fun obj => args_init_3 obj _ _) F.entry_int_new
    (gives_textB (n := d) (by rcases hb with rfl | rfl | rfl | rfl <;> decide) (by rw [hz.1]; simp) (by rw [hz.1]; exact hr) (by rw [hz.1, hz.2]; simp)).meets ?_
  exact (show (Made.int d).post _ s from ⟨rfl, h hd⟩)
theorem r_in {y : PySem.Str} (hy : y = mkS [c]) (h : Q (.bool (decide (c ∈ x.cps.toList))) s) : wpAny (model prog w) A (compareOp .In (.str y u) (.str x t)) Q E s := by
  subst hy
  refine PyProof.Rows.in_str ?_
  have := StrLaws.found_one x c
  show Q (.bool !(Builtin.Str.occurrences x ⟨#[c]⟩ 0 x.length 1).isEmpty) s
  rw [this]; exact h
end
-- a body in two parts
theorem execs_cut {M : Model} {A : Around} {E : Value → Shared → Prop} {Q : Flow → Shared → Prop} {env : Env} {pre post : List Stmt} {s : Shared} (R : Shared → Prop)
    (h1 : wpAny M A (execs pre env) (fun f s' => match f with | .next => R s' | f => Q f s') E s) (h2 : ∀ s', R s' → wpAny M A (execs post env) Q E s') : wpAny M A (execs (pre ++ post) env) Q E s := by
  intro Γ p hΓ
  have h := h1 Γ p hΓ
  clear h1
  induction pre generalizing p s with
  | nil => exact h2 s h Γ p hΓ
  | cons a r ih =>
    show Sem.wp M Γ (execs (a :: (r ++ post)) env) _ _ p s
    rw [execs_cons, Sem.wp_bind'] at h ⊢
    refine Sem.wp_mono M Γ _ (fun f p' s' h' => ?_) (fun _ _ _ h' => h') _ _ h
    cases f with
    | next => exact ih p' h'
    | _ => exact h'
theorem cut_at {M : Model} {A : Around} {E : Value → Shared → Prop} {Q : Flow → Shared → Prop} {env : Env} {body : List Stmt} {s : Shared} (n : Nat) (R : Shared → Prop)
    (h1 : wpAny M A (execs (body.take n) env) (fun f s' => match f with | .next => R s' | f => Q f s') E s) (h2 : ∀ s', R s' → wpAny M A (execs (body.drop n) env) Q E s') : wpAny M A (execs body env) Q E s := by
  rw [← List.take_append_drop n body]
  exact execs_cut R h1 h2
-- a frame in which some names are known
theorem fr_pin {h₀ h : Heap} {L : Addr} {m : Str → Option Value} {x : Str} {v : Value} (F : Fr h₀ L h m) (e : m x = some v) : Fr h₀ L h (fun y => if y = x then some v else m y) := by
  have : (fun y => if y = x then some v else m y) = m := by
    funext y
    by_cases hy : y = x
    · rw [if_pos hy, hy, e]
    · rw [if_neg hy]
  rw [this]; exact F
theorem r_slice_by {prog : Program} {w : World} {A : Around} {E : Value → Shared → Prop} {s : Shared} {value slice : PySem.Expr} {x : PySem.Str} {t : Tok} {i j k : Int} {l : List Nat} {Q : Value → Shared → Prop} {h₀ : Heap} {L : Addr} {m : PySem.Str → Option Value} {news : List (Addr × Obj)} {ui uj uk : Tok}
    (hx : x = mkS l) (hn : l.length ≤ 1000) (F : Fr h₀ L s.heap m) (N : News h₀ L s.heap news) (hk : (k == 0) = false)
    (h : ∀ h' t' c, Fr h₀ L h' m → News h₀ L h' news → Q (.str (Txt.sliceBy x (some (i, ui)) (some (j, uj)) (k, uk)) t') { s with heap := h', toks := c })
    (hs : subscripted slice false (.str x t) (.ref s.heap.objs.size) = operate [.ref s.heap.objs.size, .str x t] (getItem (.str x t) (.ref s.heap.objs.size)))
    (ht : ∀ r, letTemporaryGo value (.str x t) r = pure ()) :
    wpAny (model prog w) A (subscriptTail value slice (.str x t) (.ref s.heap.objs.size)) Q E { s with heap := s.heap.push { cls := .type "slice", data := .fields #[.int i ui, .int j uj, .int k uk] } } := by
  refine slice_strK_ss F N hk h hs ht (by rw [hx, mkS_len, sizeLine_eq]; omega)

end WI
section WM
-- plain laws of rows of figures
def worth (b : Int) (ns : List Int) : Int := ns.foldl (fun a n => a * b + n) 0
theorem worth_go (b : Int) (ns : List Int) : ∀ a : Int, ns.foldl (fun a n => a * b + n) a = a * b ^ ns.length + worth b ns := by
  unfold worth
  induction ns with
  | nil => intro a; simp
  | cons n r ih =>
    intro a
    rw [List.foldl_cons, ih, List.foldl_cons, ih (0 * b + n), List.length_cons, Int.pow_succ]
    rw [Int.zero_mul, Int.zero_add, Int.add_mul, Int.mul_assoc, Int.mul_comm b, ← Int.mul_assoc, Int.add_assoc]
theorem worth_nil (b : Int) : worth b [] = 0 := rfl
theorem worth_app (b : Int) (xs ys : List Int) : worth b (xs ++ ys) = worth b xs * b ^ ys.length + worth b ys := by
  show (xs ++ ys).foldl _ 0 = _
  rw [List.foldl_append, worth_go]
  rfl
theorem worth_one (b d : Int) : worth b [d] = d := by simp [worth]
theorem worth_cons (b d : Int) (ys : List Int) : worth b (d :: ys) = d * b ^ ys.length + worth b ys := by
  have := worth_app b [d] ys
  rw [worth_one] at this
  exact this
theorem worth_zeros (b : Int) (n : Nat) : worth b (List.replicate n 0) = 0 := by
  induction n with
  | zero => rfl
  | succ n ih => rw [List.replicate_succ, worth_cons, ih]; simp
theorem worth_tops (b : Int) (n : Nat) : worth b (List.replicate n (b - 1)) = b ^ n - 1 := by
  induction n with
  | zero => simp [worth]
  | succ n ih => rw [List.replicate_succ, worth_cons, ih, List.length_replicate, Int.pow_succ, Int.sub_mul, Int.one_mul, Int.mul_comm b]; omega
def InB (b : Int) (ns : List Int) : Prop := ∀ d ∈ ns, 0 ≤ d ∧ d < b
theorem InB.nil {b : Int} : InB b [] := fun _ h => nomatch h
theorem InB.app {b : Int} {xs ys : List Int} (h : InB b xs) (h' : InB b ys) : InB b (xs ++ ys) := fun d hd => (List.mem_append.mp hd).elim (h d) (h' d)
theorem InB.take {b : Int} {xs : List Int} (h : InB b xs) (n : Nat) : InB b (xs.take n) := fun d hd => h d (List.mem_of_mem_take hd)
theorem InB.drop {b : Int} {xs : List Int} (h : InB b xs) (n : Nat) : InB b (xs.drop n) := fun d hd => h d (List.mem_of_mem_drop hd)
theorem InB.cons {b d : Int} {xs : List Int} (hd : 0 ≤ d ∧ d < b) (h : InB b xs) : InB b (d :: xs) := fun e he => (List.mem_cons.mp he).elim (fun q => q ▸ hd) (h e)
theorem InB.zeros {b : Int} (hb : 0 < b) (n : Nat) : InB b (List.replicate n 0) := fun d hd => by rw [List.eq_of_mem_replicate hd]; exact ⟨Int.le_refl _, hb⟩
theorem worth_range {b : Int} (hb : 2 ≤ b) {ns : List Int} (h : InB b ns) : 0 ≤ worth b ns ∧ worth b ns < b ^ ns.length := by
  induction ns with
  | nil => simp [worth]
  | cons d r ih =>
    have ih := ih fun e he => h e (.tail _ he)
    have hd := h d (.head _)
    have hp : 0 < b ^ r.length := Int.pow_pos (by omega)
    rw [worth_cons, List.length_cons, Int.pow_succ]
    have h1 : 0 ≤ d * b ^ r.length := Int.mul_nonneg hd.1 (by omega)
    have h2 : (d + 1) * b ^ r.length ≤ b * b ^ r.length := Int.mul_le_mul_of_nonneg_right (by omega) (by omega)
    rw [Int.add_mul, Int.one_mul] at h2
    rw [Int.mul_comm (b ^ r.length) b]
    exact ⟨by omega, by omega⟩
theorem worth_zero {b : Int} (hb : 2 ≤ b) {ns : List Int} (h : ∀ d ∈ ns, d = 0) : worth b ns = 0 := by
  have : ns = List.replicate ns.length 0 := List.eq_replicate_of_mem h
  rw [this, worth_zeros]
theorem worth_pos {b : Int} (hb : 2 ≤ b) {ns : List Int} (h : InB b ns) {j : Nat} (hj : ns.getD j 0 ≠ 0) : 0 < worth b ns := by
  induction ns generalizing j with
  | nil => exact absurd rfl hj
  | cons d r ih =>
    have hr : InB b r := fun e he => h e (.tail _ he)
    have hd := h d (.head _)
    have h0 := (worth_range hb hr).1
    have hp : 0 < b ^ r.length := Int.pow_pos (by omega)
    rw [worth_cons]
    cases j with
    | zero =>
      have hd1 : d ≠ 0 := hj
      have : 0 < d * b ^ r.length := Int.mul_pos (by omega) hp
      omega
    | succ j =>
      have := ih hr (j := j) hj
      have h1 : 0 ≤ d * b ^ r.length := Int.mul_nonneg hd.1 (by omega)
      omega
-- the whole and the rest
theorem split_at {b : Int} (hb : 2 ≤ b) {ns : List Int} (h : InB b ns) (k : Nat) (hk : k ≤ ns.length) :
    worth b ns / b ^ (ns.length - k) = worth b (ns.take k) ∧ worth b ns % b ^ (ns.length - k) = worth b (ns.drop k) := by
  have e : worth b ns = worth b (ns.take k) * b ^ (ns.length - k) + worth b (ns.drop k) := by
    have := worth_app b (ns.take k) (ns.drop k)
    rw [List.take_append_drop, List.length_drop] at this
    exact this
  have hr := worth_range hb (h.drop k)
  rw [List.length_drop] at hr
  have hp : 0 < b ^ (ns.length - k) := Int.pow_pos (by omega)
  rw [e]
  refine ⟨?_, ?_⟩
  · rw [Int.add_comm, Int.add_mul_ediv_right _ _ (by omega), Int.ediv_eq_zero_of_lt hr.1 hr.2]; omega
  · rw [Int.add_comm, Int.add_mul_emod_self_right, Int.emod_eq_of_lt hr.1 hr.2]
theorem drop_at {ns : List Int} {k : Nat} (hk : k < ns.length) : ns.drop k = ns.getD k 0 :: ns.drop (k + 1) := by
  rw [List.drop_eq_getElem_cons hk]
  congr 1
  simp [List.getD, hk]
theorem getD_mem {ns : List Int} {k : Nat} (hk : k < ns.length) : ns.getD k 0 ∈ ns := by
  have : ns.getD k 0 = ns[k] := by simp [List.getD, hk]
  rw [this]; exact List.getElem_mem hk
section
variable {b : Int} {ns : List Int} {k : Nat}
-- rounding upward
theorem up_iff (hb : 2 ≤ b) (h : InB b ns) (hk : k < ns.length) : 0 < worth b (ns.drop k) ↔ (ns.getD k 0 ≠ 0 ∨ ∃ j : Nat, k < j ∧ ns.getD j 0 ≠ 0) := by
  constructor
  · intro hp
    refine Classical.byContradiction fun hn => ?_
    have hz : ∀ d ∈ ns.drop k, d = 0 := by
      intro d hd
      obtain ⟨i, hi, e⟩ := List.mem_iff_getElem.mp hd
      rw [List.getElem_drop] at e
      refine Classical.byContradiction fun hne => hn ?_
      rw [List.length_drop] at hi
      have e2 : ns.getD (k + i) 0 = d := by rw [← e]; simp [List.getD, show k + i < ns.length by omega]
      by_cases hi0 : i = 0
      · subst hi0; exact .inl (by rw [show ns.getD k 0 = d from e2]; exact hne)
      · exact .inr ⟨k + i, by omega, by rw [e2]; exact hne⟩
    rw [worth_zero hb hz] at hp
    exact absurd hp (Int.lt_irrefl 0)
  · rintro (h0 | ⟨j, hj, h0⟩)
    · exact worth_pos hb (h.drop k) (j := 0) (by rw [drop_at hk]; exact h0)
    · refine worth_pos hb (h.drop k) (j := j - k) ?_
      rw [List.getD_eq_getElem?_getD, List.getElem?_drop, show k + (j - k) = j by omega, ← List.getD_eq_getElem?_getD]
      exact h0
-- rounding to the nearest
theorem near (hb : 2 ≤ b) (he : b % 2 = 0) (h : InB b ns) (hk : k < ns.length) :
    (b / 2 < ns.getD k 0 → b ^ (ns.length - k) < 2 * worth b (ns.drop k)) ∧ (ns.getD k 0 < b / 2 → 2 * worth b (ns.drop k) < b ^ (ns.length - k)) ∧
    (ns.getD k 0 = b / 2 → 2 * worth b (ns.drop k) = b ^ (ns.length - k) + 2 * worth b (ns.drop (k + 1))) := by
  have e : worth b (ns.drop k) = ns.getD k 0 * b ^ (ns.length - (k + 1)) + worth b (ns.drop (k + 1)) := by rw [drop_at hk, worth_cons, List.length_drop]
  have hr := worth_range hb (h.drop (k + 1))
  rw [List.length_drop] at hr
  have hp : 0 < b ^ (ns.length - (k + 1)) := Int.pow_pos (by omega)
  have e2 : b ^ (ns.length - k) = 2 * ((b / 2) * b ^ (ns.length - (k + 1))) := by
    rw [show ns.length - k = (ns.length - (k + 1)) + 1 by omega, Int.pow_succ, ← Int.mul_assoc, show 2 * (b / 2) = b by omega, Int.mul_comm]
  rw [e, e2]
  generalize b ^ (ns.length - (k + 1)) = B at *
  generalize worth b (ns.drop (k + 1)) = r at *
  generalize ns.getD k 0 = d at *
  refine ⟨fun hd => ?_, fun hd => ?_, fun hd => ?_⟩
  · have : (b / 2 + 1) * B ≤ d * B := Int.mul_le_mul_of_nonneg_right (by omega) (by omega)
    rw [Int.add_mul, Int.one_mul] at this
    omega
  · have : (d + 1) * B ≤ (b / 2) * B := Int.mul_le_mul_of_nonneg_right (by omega) (by omega)
    rw [Int.add_mul, Int.one_mul] at this
    omega
  · rw [hd]; omega
-- one more
theorem bump_at (hb : 2 ≤ b) {ds : List Int} {i k : Nat} (hi : i < k) (hk : k ≤ ds.length) (ht : ∀ j : Nat, i < j → j < k → ds.getD j 0 = b - 1) :
    worth b (ds.take i ++ [ds.getD i 0 + 1] ++ List.replicate (k - i - 1) 0) = worth b (ds.take k) + 1 := by
  have e : ds.take k = ds.take i ++ [ds.getD i 0] ++ List.replicate (k - i - 1) (b - 1) := by
    refine List.ext_getElem? fun n => ?_
    by_cases h1 : n < i
    · rw [List.append_assoc, List.getElem?_append_left (by rw [List.length_take]; omega), List.getElem?_take_of_lt h1, List.getElem?_take_of_lt (by omega)]
    · by_cases h2 : n = i
      · subst h2
        rw [List.getElem?_take_of_lt hi, List.append_assoc, List.getElem?_append_right (by rw [List.length_take]; omega), List.length_take]
        rw [show n - min n ds.length = 0 by omega]
        simp [List.getD, show n < ds.length by omega]
      · by_cases h3 : n < k
        · rw [List.getElem?_take_of_lt h3, List.getElem?_append_right (by rw [List.length_append, List.length_take, List.length_singleton]; omega)]
          rw [List.getElem?_replicate, if_pos (by rw [List.length_append, List.length_take, List.length_singleton]; omega), ← ht n (by omega) h3]
          simp [List.getD, show n < ds.length by omega]
        · rw [List.getElem?_eq_none (by rw [List.length_take]; omega), List.getElem?_eq_none (by simp only [List.length_append, List.length_take, List.length_singleton, List.length_replicate]; omega)]
  rw [e, worth_app, worth_app, worth_app b (_ ++ _), worth_app b (ds.take i), worth_zeros, worth_tops, worth_one, worth_one]
  simp only [List.length_replicate, List.length_singleton, Int.pow_one]
  rw [Int.add_zero, ← Int.add_assoc, Int.add_mul]
  omega
theorem all_tops (hb : 2 ≤ b) {ds : List Int} (hk : k ≤ ds.length) (ht : ∀ j : Nat, j < k → ds.getD j 0 = b - 1) : worth b (ds.take k) + 1 = b ^ k := by
  have e : ds.take k = List.replicate k (b - 1) := by
    refine List.ext_getElem? fun n => ?_
    by_cases h3 : n < k
    · rw [List.getElem?_take_of_lt h3, List.getElem?_replicate, if_pos h3, ← ht n h3]
      simp [List.getD, show n < ds.length by omega]
    · rw [List.getElem?_eq_none (by rw [List.length_take]; omega), List.getElem?_eq_none (by rw [List.length_replicate]; omega)]
  rw [e, worth_tops]; omega
theorem one_zeros (b : Int) (n : Nat) : worth b (1 :: List.replicate n 0) = b ^ n := by rw [worth_cons, worth_zeros, List.length_replicate]; omega
end

end WM
section WE
-- what round_digits owes
def RoundOk (b : Int) (k : Nat) (due : Int) (res : List Int) (e : Int) : Prop :=
  res.length = k ∧ InB b res ∧ ((due = b ^ k ∧ e = 1 ∧ worth b res = b ^ (k - 1)) ∨ (due ≠ b ^ k ∧ e = 0 ∧ worth b res = due))
section
variable {b : Int} {ds : List Int} {k : Nat}
theorem take_dig {n j : Nat} (h : j < n) (h2 : j < ds.length) : ((ds.map dig).take n).getD j 0 = dig (ds.getD j 0) := by
  have h3 : j < ((ds.map dig).take n).length := by rw [List.length_take, List.length_map]; omega
  rw [List.getD_eq_getElem?_getD, List.getElem?_eq_getElem h3]
  simp [List.getD, h2]
theorem map_dig {j : Nat} (h2 : j < ds.length) : (ds.map dig).getD j 0 = dig (ds.getD j 0) := by
  simp [List.getD, h2]
theorem dig_inj {a c : Int} (ha : 0 ≤ a ∧ a < 36) (hc : 0 ≤ c ∧ c < 36) (h : dig a = dig c) : a = c := by
  have go : ∀ m : Nat, m < 36 → ∀ n : Nat, n < 36 → sd.getD m 0 = sd.getD n 0 → m = n := by decide +kernel
  have := go a.toNat (by omega) c.toNat (by omega) h
  omega
theorem in_rnd {lo d : Int} (hb : 2 ≤ b ∧ b ≤ 16) (hlo : 0 ≤ lo ∧ lo ≤ b) (hd : 0 ≤ d ∧ d < b) : dig d ∈ (mkS ((sd.drop lo.toNat).take (b - lo).toNat)).cps.toList ↔ lo ≤ d := by
  have go : ∀ n : Nat, n < 17 → ∀ m : Nat, m < 17 → ∀ j : Nat, j < 17 → (¬ m ≤ n ∨ ¬ j < n ∨ decide (sd.getD j 0 ∈ (sd.drop m).take (n - m)) = decide (m ≤ j)) := by decide +kernel
  have h := ((go b.toNat (by omega) lo.toNat (by omega) d.toNat (by omega)).resolve_left (by omega)).resolve_left (by omega)
  rw [decide_eq_decide] at h
  rw [mkS_cps, show (b - lo).toNat = b.toNat - lo.toNat by omega]
  exact h.trans ⟨fun q => by omega, fun q => by omega⟩
theorem endC1 (hb : 2 ≤ b) (h : InB b ds) (hk : k < ds.length) : RoundOk b k (worth b (ds.take k)) (ds.take k) 0 := by
  have hr := worth_range hb (h.take k)
  have hl : (ds.take k).length = k := by rw [List.length_take]; omega
  rw [hl] at hr
  exact ⟨hl, h.take k, .inr ⟨by omega, rfl, rfl⟩⟩
theorem endC2 (hb : 2 ≤ b) (h : InB b ds) (hk : k < ds.length) {i : Nat} (hi : i < k) (ht : ∀ j : Nat, i < j → j < k → ds.getD j 0 = b - 1) (hne : ds.getD i 0 ≠ b - 1) :
    RoundOk b k (worth b (ds.take k) + 1) (ds.take i ++ [ds.getD i 0 + 1] ++ List.replicate (k - i - 1) 0) 0 := by
  have hd := h _ (getD_mem (show i < ds.length by omega))
  have hB : InB b (ds.take i ++ [ds.getD i 0 + 1] ++ List.replicate (k - i - 1) 0) := ((h.take i).app (InB.cons (by omega) InB.nil)).app (InB.zeros (by omega) _)
  have hl : (ds.take i ++ [ds.getD i 0 + 1] ++ List.replicate (k - i - 1) 0).length = k := by
    simp only [List.length_append, List.length_take, List.length_singleton, List.length_replicate]; omega
  have hw := bump_at hb hi (by omega : k ≤ ds.length) ht
  have hr := worth_range hb hB
  rw [hl, hw] at hr
  exact ⟨hl, hB, .inr ⟨by omega, rfl, hw⟩⟩
theorem endC3 (hb : 2 ≤ b) (hk : k < ds.length) (h1 : 1 ≤ k) (ht : ∀ j : Nat, j < k → ds.getD j 0 = b - 1) : RoundOk b k (worth b (ds.take k) + 1) (1 :: List.replicate (k - 1) 0) 1 := by
  have hw := all_tops hb (by omega : k ≤ ds.length) ht
  refine ⟨by rw [List.length_cons, List.length_replicate]; omega, InB.cons (by omega) (InB.zeros (by omega) _), .inl ⟨hw, rfl, one_zeros b _⟩⟩
theorem txt_C2 {i : Nat} {k' : Nat} (hd : 0 ≤ ds.getD i 0 + 1) (hi : i ≤ k) : mkS (((ds.map dig).take k).take i ++ [sd.getD (ds.getD i 0 + 1).toNat 0] ++ List.replicate k' 48) = txt (ds.take i ++ [ds.getD i 0 + 1] ++ List.replicate k' 0) := by
  unfold txt
  congr 1
  rw [List.map_append, List.map_append, List.take_take, Nat.min_eq_left hi, List.map_take, List.map_replicate]
  rfl
theorem txt_C1 : mkS ((ds.map dig).take k) = txt (ds.take k) := by rw [txt, List.map_take]
theorem txt_C3 {k' : Nat} : mkS ([49] ++ List.replicate k' 48) = txt (1 :: List.replicate k' 0) := by
  unfold txt
  rw [List.map_cons, List.map_replicate]
  rfl
end
theorem top_eq {ds : List Int} {i kept base : Int} (hIn : InB base ds) (hb : 2 ≤ base ∧ base ≤ 16) (h0 : 0 ≤ i) (h1 : i < kept) (h2 : kept < ds.length) :
    ((mkS [((ds.map dig).take kept.toNat).getD i.toNat 0] == mkS [sd.getD (base - 1).toNat 0]) = true) ↔ ds.getD i.toNat 0 = base - 1 := by
  rw [beq_iff_eq, take_dig (by omega) (by omega)]
  have hd := hIn _ (getD_mem (show i.toNat < ds.length by omega))
  constructor
  · intro h
    have := mkS_inj h
    exact dig_inj (by omega) (by omega) (List.cons.inj this).1
  · intro h
    rw [h]; rfl
theorem stC0 {ds : List Int} {kept base : Int} (h : 1 ≤ kept) : -1 ≤ kept - 1 ∧ kept - 1 < kept ∧ ∀ j : Nat, kept - 1 < (j : Int) → j < kept.toNat → ds.getD j 0 = base - 1 :=
  ⟨by omega, by omega, fun j _ _ => by omega⟩
theorem stC {ds : List Int} {i kept base : Int} (hIn : InB base ds) (hb : 2 ≤ base ∧ base ≤ 16) (h0 : 0 ≤ i) (h1 : i < kept) (h2 : kept < ds.length) (h3 : ∀ j : Nat, i < (j : Int) → j < kept.toNat → ds.getD j 0 = base - 1)
    (he : (mkS [((ds.map dig).take kept.toNat).getD i.toNat 0] == mkS [sd.getD (base - 1).toNat 0]) = true) : -1 ≤ i - 1 ∧ i - 1 < kept ∧ ∀ j : Nat, i - 1 < (j : Int) → j < kept.toNat → ds.getD j 0 = base - 1 := by
  refine ⟨by omega, by omega, fun j hj1 hj2 => ?_⟩
  by_cases hj : i < (j : Int)
  · exact h3 j hj hj2
  · have e : j = i.toNat := by omega
    rw [e]; exact (top_eq hIn hb h0 h1 h2).mp he
theorem due_up {dir : Nat} {last whole rest : Int} (h : isUp dir last whole rest) : due dir last whole rest = whole + 1 := by unfold due; exact if_pos h
theorem due_not {dir : Nat} {last whole rest : Int} (h : ¬ isUp dir last whole rest) : due dir last whole rest = whole := by unfold due; exact if_neg h
theorem dueC {ns ds : List Int} {kept base lo : Int} {dir : Nat} {up : Prop} (hb : 2 ≤ base ∧ base ≤ 16) (hd : InB base ns) (hk : 1 ≤ kept ∧ kept < ns.length)
    (hup : up = isUp dir (base ^ ((ns.length : Int) - kept).toNat) (worth base ns / base ^ ((ns.length : Int) - kept).toNat) (worth base ns % base ^ ((ns.length : Int) - kept).toNat))
    (h1 : ds.take kept.toNat = ns.take kept.toNat) (h2 : kept < ds.length) (hIn : InB base ds) (h5 : 1 ≤ lo ∧ lo ≤ base) (h6 : lo ≤ ds.getD kept.toNat 0 ↔ up) :
    (((ds.map dig).getD kept.toNat 0 ∈ (mkS ((sd.drop lo.toNat).take (base - lo).toNat)).cps.toList) →
      due dir (base ^ ((ns.length : Int) - kept).toNat) (worth base ns / base ^ ((ns.length : Int) - kept).toNat) (worth base ns % base ^ ((ns.length : Int) - kept).toNat) = worth base (ds.take kept.toNat) + 1) ∧
    ((¬ (ds.map dig).getD kept.toNat 0 ∈ (mkS ((sd.drop lo.toNat).take (base - lo).toNat)).cps.toList) →
      due dir (base ^ ((ns.length : Int) - kept).toNat) (worth base ns / base ^ ((ns.length : Int) - kept).toNat) (worth base ns % base ^ ((ns.length : Int) - kept).toNat) = worth base (ds.take kept.toNat)) := by
  have hi := in_rnd (b := base) (lo := lo) hb (by omega) (hIn _ (getD_mem (show kept.toNat < ds.length by omega)))
  rw [map_dig (show kept.toNat < ds.length by omega), hi, h6, h1]
  have e : ((ns.length : Int) - kept).toNat = ns.length - kept.toNat := by omega
  rw [e] at hup ⊢
  have hs := (split_at hb.1 hd kept.toNat (by omega)).1
  exact ⟨fun h => by rw [due_up (hup ▸ h), hs], fun h => by rw [due_not (hup ▸ h), hs]⟩
section
variable {g h' : Heap} {T : Addr} {t1 t2 : Tok} {ds : List Int} {i kept base D : Int}
theorem finC1 (hD : D = worth base (ds.take kept.toNat)) (hIn : InB base ds) (hb : 2 ≤ base ∧ base ≤ 16) (h1 : 1 ≤ kept) (h2 : kept < ds.length) (hn : g.get? T = none)
    (hg : h'.get? T = some { cls := .type "tuple", data := .seq #[.str (mkS (List.take kept.toNat (List.map dig ds))) t1, .int 0 t2] }) :
    ∃ T' res e t1 t2, Value.ref T = .ref T' ∧ g.get? T' = none ∧ h'.get? T' = some { cls := .type "tuple", data := .seq #[.str (txt res) t1, .int e t2] } ∧ RoundOk base kept.toNat D res e := by
  refine ⟨T, ds.take kept.toNat, 0, t1, t2, rfl, hn, ?_, ?_⟩
  · rw [← txt_C1]; exact hg
  · rw [hD]; exact endC1 hb.1 hIn (by omega)
theorem finC2 (hD : D = worth base (ds.take kept.toNat) + 1) (hIn : InB base ds) (hb : 2 ≤ base ∧ base ≤ 16) (h0 : 0 ≤ i) (h1 : i < kept) (h2 : kept < ds.length) (h3 : ∀ j : Nat, i < (j : Int) → j < kept.toNat → ds.getD j 0 = base - 1)
    (he : (mkS [((ds.map dig).take kept.toNat).getD i.toNat 0] == mkS [sd.getD (base - 1).toNat 0]) = false) (hn : g.get? T = none)
    (hg : h'.get? T = some { cls := .type "tuple", data := .seq #[.str (mkS (List.take i.toNat (List.take kept.toNat (List.map dig ds)) ++ [sd.getD (ds.getD i.toNat 0 + 1).toNat 0] ++ List.replicate (kept - i - 1).toNat 48)) t1, .int 0 t2] }) :
    ∃ T' res e t1 t2, Value.ref T = .ref T' ∧ g.get? T' = none ∧ h'.get? T' = some { cls := .type "tuple", data := .seq #[.str (txt res) t1, .int e t2] } ∧ RoundOk base kept.toNat D res e := by
  have hd := hIn _ (getD_mem (show i.toNat < ds.length by omega))
  refine ⟨T, ds.take i.toNat ++ [ds.getD i.toNat 0 + 1] ++ List.replicate (kept - i - 1).toNat 0, 0, t1, t2, rfl, hn, ?_, ?_⟩
  · rw [← txt_C2 (k := kept.toNat) (by omega) (by omega)]; exact hg
  · rw [hD]
    have := endC2 hb.1 hIn (k := kept.toNat) (by omega) (i := i.toNat) (by omega) (fun j q1 q2 => h3 j (by omega) q2)
      (fun q => by rw [(top_eq hIn hb h0 h1 h2).mpr q] at he; cases he)
    rw [show kept.toNat - i.toNat - 1 = (kept - i - 1).toNat by omega] at this
    exact this
theorem finC3 (hD : D = worth base (ds.take kept.toNat) + 1) (hb : 2 ≤ base ∧ base ≤ 16) (h1 : 1 ≤ kept) (h0 : ¬ 0 ≤ i) (h2 : kept < ds.length) (h3 : ∀ j : Nat, i < (j : Int) → j < kept.toNat → ds.getD j 0 = base - 1) (hn : g.get? T = none)
    (hg : h'.get? T = some { cls := .type "tuple", data := .seq #[.str (mkS ([49] ++ List.replicate (kept - 1).toNat 48)) t1, .int (0 + 1) t2] }) :
    ∃ T' res e t1 t2, Value.ref T = .ref T' ∧ g.get? T' = none ∧ h'.get? T' = some { cls := .type "tuple", data := .seq #[.str (txt res) t1, .int e t2] } ∧ RoundOk base kept.toNat D res e := by
  refine ⟨T, 1 :: List.replicate (kept - 1).toNat 0, 1, t1, t2, rfl, hn, ?_, ?_⟩
  · rw [← txt_C3]; exact hg
  · rw [hD]
    have := endC3 (b := base) hb.1 (ds := ds) (k := kept.toNat) (by omega) (by omega) (fun j q => h3 j (by omega) q)
    rw [show kept.toNat - 1 = (kept - 1).toNat by omega] at this
    exact this
end
-- between the ties and the last step
def MidR (g : Heap) (L' : Addr) (s : Shared) (ns : List Int) (kept base : Int) (up : Prop) (s' : Shared) : Prop :=
  ∃ (h' : Heap) (tk : Nat) (ds : List Int) (lo : Int) (u : Str → Option Value) (td tc te tr tx : Tok), s' = { s with heap := h', toks := tk } ∧
    Fr g L' h' (fun y => if y = Str.ofString "digits" then some (.str (txt ds) td) else if y = Str.ofString "dps" then some (.int kept tc) else if y = Str.ofString "base" then some (.int base te)
      else if y = Str.ofString "rnd_digs" then some (.str (mkS ((sd.drop lo.toNat).take (base - lo).toNat)) tr) else if y = Str.ofString "exponent" then some (.int 0 tx) else if y = Str.ofString "fixed" then some (.bool false) else u y) ∧
    ds.take kept.toNat = ns.take kept.toNat ∧ kept < ds.length ∧ ds.length ≤ 101 ∧ InB base ds ∧ (1 ≤ lo ∧ lo ≤ base) ∧ (lo ≤ ds.getD kept.toNat 0 ↔ up)
theorem MidR.mk {g h' : Heap} {L' : Addr} {s : Shared} {ns : List Int} {kept base : Int} {up : Prop} {m : Str → Option Value} {tk : Nat} {td tc te tr tx : Tok} {Tx : Str} (ds : List Int) (lo : Int) (F : Fr g L' h' m)
    (eT : Tx = txt ds) (e1 : m (Str.ofString "digits") = some (.str Tx td)) (e2 : m (Str.ofString "dps") = some (.int kept tc)) (e3 : m (Str.ofString "base") = some (.int base te))
    (e4 : m (Str.ofString "rnd_digs") = some (.str (mkS ((sd.drop lo.toNat).take (base - lo).toNat)) tr)) (e5 : m (Str.ofString "exponent") = some (.int 0 tx)) (e6 : m (Str.ofString "fixed") = some (.bool false))
    (h1 : ds.take kept.toNat = ns.take kept.toNat) (h2 : kept < ds.length) (h3 : ds.length ≤ 101) (h4 : InB base ds) (h5 : 1 ≤ lo ∧ lo ≤ base) (h6 : lo ≤ ds.getD kept.toNat 0 ↔ up) :
    MidR g L' s ns kept base up { s with heap := h', toks := tk } := by
  subst eT
  have F6 := fr_pin F e6
  have F5 := fr_pin F6 (x := Str.ofString "exponent") (v := .int 0 tx) (by rw [if_neg (by decide)]; exact e5)
  have F4 := fr_pin F5 (x := Str.ofString "rnd_digs") (v := .str (mkS ((sd.drop lo.toNat).take (base - lo).toNat)) tr) (by rw [if_neg (by decide), if_neg (by decide)]; exact e4)
  have F3 := fr_pin F4 (x := Str.ofString "base") (v := .int base te) (by rw [if_neg (by decide), if_neg (by decide), if_neg (by decide)]; exact e3)
  have F2 := fr_pin F3 (x := Str.ofString "dps") (v := .int kept tc) (by rw [if_neg (by decide), if_neg (by decide), if_neg (by decide), if_neg (by decide)]; exact e2)
  have F1 := fr_pin F2 (x := Str.ofString "digits") (v := .str (txt ds) td) (by rw [if_neg (by decide), if_neg (by decide), if_neg (by decide), if_neg (by decide), if_neg (by decide)]; exact e1)
  exact ⟨h', tk, ds, lo, m, td, tc, te, tr, tx, rfl, F1, h1, h2, h3, h4, h5, h6⟩

end WE
section WA
-- the ties of round_digits
def LastOf (base kept : Int) (ns : List Int) : Int := base ^ ((ns.length : Int) - kept).toNat
def UpOf (dir : Nat) (base kept : Int) (ns : List Int) : Prop :=
  isUp dir (base ^ ((ns.length : Int) - kept).toNat) (worth base ns / base ^ ((ns.length : Int) - kept).toNat) (worth base ns % base ^ ((ns.length : Int) - kept).toNat)
section
variable {ns : List Int} {base kept : Int}
theorem upOf_eq (hb : 2 ≤ base) (hd : InB base ns) (hk : 1 ≤ kept ∧ kept < ns.length) (dir : Nat) :
    UpOf dir base kept ns = isUp dir (base ^ (ns.length - kept.toNat)) (worth base (ns.take kept.toNat)) (worth base (ns.drop kept.toNat)) := by
  have e : ((ns.length : Int) - kept).toNat = ns.length - kept.toNat := by omega
  have hs := split_at hb hd kept.toNat (by omega)
  unfold UpOf
  rw [e, hs.1, hs.2]
theorem z_eq (hd : InB base ns) (hb : 2 ≤ base ∧ base ≤ 16) {i : Int} (h0 : 0 ≤ i) (h1 : i < ns.length) : (mkS [(ns.map dig).getD i.toNat 0] != Str.ofString "0") = false ↔ ns.getD i.toNat 0 = 0 := by
  have hi := hd _ (getD_mem (show i.toNat < ns.length by omega))
  rw [bne_eq_false_iff_eq, map_dig (by omega), zero_eq]
  constructor
  · intro h
    exact dig_inj (a := ns.getD i.toNat 0) (c := 0) (by omega) (by decide) (List.cons.inj (mkS_inj h)).1
  · intro h
    rw [h]; rfl
theorem z_eq' (hd : InB base ns) (hb : 2 ≤ base ∧ base ≤ 16) {i : Int} (h0 : 0 ≤ i) (h1 : i < ns.length) : (mkS [(ns.map dig).getD i.toNat 0] == Str.ofString "0") = true ↔ ns.getD i.toNat 0 = 0 := by
  rw [← z_eq hd hb h0 h1, bne_eq_false_iff_eq, beq_iff_eq]
theorem stA {kC b₀ : Bool} {pre : List Int} {kN : Int} (hd : InB base ns) (hb : 2 ≤ base ∧ base ≤ 16) (hk : 1 ≤ kept ∧ kept < ns.length) (hlen : (txt ns).length = ns.length) (e : kN = kept + 1 + (pre.length : Int)) (hlt : pre.length < (((txt ns).length : Int) - (kept + 1)).toNat)
    (h1 : kC = b₀) (h2 : ∀ j ∈ pre, ns.getD j.toNat 0 = 0) (hz : (mkS [(ns.map dig).getD kN.toNat 0] != Str.ofString "0") = false) : kC = b₀ ∧ ∀ j ∈ pre ++ [kN], ns.getD j.toNat 0 = 0 := by
  refine ⟨h1, fun j hj => ?_⟩
  rcases List.mem_append.mp hj with hj | hj
  · exact h2 j hj
  · rw [List.mem_singleton.mp hj]
    exact (z_eq hd hb (by omega) (by omega)).mp hz
theorem stA0 {b₀ : Bool} : b₀ = b₀ ∧ ∀ j ∈ ([] : List Int), ns.getD j.toNat 0 = 0 := ⟨rfl, fun _ h => nomatch h⟩
theorem rest_zero (hb : 2 ≤ base) (hk : 1 ≤ kept ∧ kept < ns.length) (hlen : (txt ns).length = ns.length) (h : ∀ j ∈ rangeKs (kept + 1) (((txt ns).length : Int) - (kept + 1)).toNat, ns.getD j.toNat 0 = 0) :
    ∀ j : Nat, kept.toNat < j → ns.getD j 0 = 0 := by
  intro j hj
  by_cases hl : j < ns.length
  · have := h (j : Int) (by
      unfold rangeKs
      refine List.mem_map.mpr ⟨j - (kept.toNat + 1), List.mem_range.mpr (by omega), by omega⟩)
    simpa using this
  · simp [List.getD, Nat.not_lt.mp hl]
theorem tail_zero (hb : 2 ≤ base) {k : Nat} (h : ∀ j : Nat, k < j → ns.getD j 0 = 0) : worth base (ns.drop (k + 1)) = 0 := by
  refine worth_zero hb fun d hd => ?_
  obtain ⟨i, hi, e⟩ := List.mem_iff_getElem.mp hd
  rw [List.getElem_drop] at e
  rw [List.length_drop] at hi
  have := h (k + 1 + i) (by omega)
  rw [← e]
  simpa [List.getD, show k + 1 + i < ns.length by omega] using this
theorem tail_pos (hb : 2 ≤ base) (hd : InB base ns) {k j : Nat} (h : k < j) (hj : ns.getD j 0 ≠ 0) : 0 < worth base (ns.drop (k + 1)) := by
  refine worth_pos hb (hd.drop (k + 1)) (j := j - (k + 1)) ?_
  rw [List.getD_eq_getElem?_getD, List.getElem?_drop, show k + 1 + (j - (k + 1)) = j by omega, ← List.getD_eq_getElem?_getD]
  exact hj
theorem whole_odd (hb : 2 ≤ base) (he : base % 2 = 0) (hk : 1 ≤ kept ∧ kept < ns.length) : worth base (ns.take kept.toNat) % 2 = ns.getD (kept - 1).toNat 0 % 2 := by
  obtain ⟨k, hk'⟩ : ∃ k, kept.toNat = k + 1 := ⟨kept.toNat - 1, by omega⟩
  have e2 : (kept - 1).toNat = k := by omega
  rw [hk', e2]
  have e : ns.take (k + 1) = ns.take k ++ [ns.getD k 0] := by
    rw [List.take_add_one]
    congr 1
    simp [List.getD, show k < ns.length by omega]
  rw [e, worth_app, worth_one]
  have e3 : base = 2 * (base / 2) := by omega
  rw [List.length_singleton, Int.pow_one, e3, ← Int.mul_assoc, Int.mul_comm _ 2, Int.mul_assoc]
  omega
-- the seven ways
theorem midN1 (hb : 2 ≤ base) (he : base % 2 = 0) (hd : InB base ns) (hk : 1 ≤ kept ∧ kept < ns.length) (hne : ns.getD kept.toNat 0 ≠ base / 2) : base / 2 ≤ ns.getD kept.toNat 0 ↔ UpOf 2 base kept ns := by
  rw [upOf_eq hb hd hk]
  have hn := near hb he hd (k := kept.toNat) (by omega)
  unfold isUp
  constructor
  · intro h
    exact .inr ⟨rfl, .inl (hn.1 (by omega))⟩
  · rintro (⟨h, _⟩ | ⟨_, h⟩)
    · omega
    · refine Classical.byContradiction fun q => ?_
      have := hn.2.1 (by omega)
      omega
theorem midN2 (hb : 2 ≤ base) (he : base % 2 = 0) (hd : InB base ns) (hk : 1 ≤ kept ∧ kept < ns.length) (hne : ns.getD kept.toNat 0 = base / 2) (hz : ∀ j : Nat, kept.toNat < j → ns.getD j 0 = 0)
    (ho : ns.getD (kept - 1).toNat 0 % 2 = 1) : base / 2 ≤ ns.getD kept.toNat 0 ↔ UpOf 2 base kept ns := by
  rw [upOf_eq hb hd hk]
  have hn := (near hb he hd (k := kept.toNat) (by omega)).2.2 hne
  rw [tail_zero hb hz] at hn
  exact ⟨fun _ => .inr ⟨rfl, .inr ⟨by omega, by rw [whole_odd hb he hk]; exact ho⟩⟩, fun _ => by omega⟩
theorem midN3 (hb : 2 ≤ base) (he : base % 2 = 0) (hd : InB base ns) (hk : 1 ≤ kept ∧ kept < ns.length) (hne : ns.getD kept.toNat 0 = base / 2) (hz : ∀ j : Nat, kept.toNat < j → ns.getD j 0 = 0)
    (ho : ¬ ns.getD (kept - 1).toNat 0 % 2 = 1) : ¬ UpOf 2 base kept ns := by
  rw [upOf_eq hb hd hk]
  have hn := (near hb he hd (k := kept.toNat) (by omega)).2.2 hne
  rw [tail_zero hb hz] at hn
  rw [← whole_odd hb he hk] at ho
  rintro (⟨h, _⟩ | ⟨_, h | ⟨_, h⟩⟩)
  · omega
  · omega
  · exact ho h
theorem midN4 (hb : 2 ≤ base) (he : base % 2 = 0) (hd : InB base ns) (hk : 1 ≤ kept ∧ kept < ns.length) (hne : ns.getD kept.toNat 0 = base / 2) {j : Nat} (hj : kept.toNat < j) (hz : ns.getD j 0 ≠ 0) :
    base / 2 ≤ ns.getD kept.toNat 0 ↔ UpOf 2 base kept ns := by
  rw [upOf_eq hb hd hk]
  have hn := (near hb he hd (k := kept.toNat) (by omega)).2.2 hne
  have := tail_pos hb hd hj hz
  exact ⟨fun _ => .inr ⟨rfl, .inl (by omega)⟩, fun _ => by omega⟩
theorem midU (hb : 2 ≤ base) (hd : InB base ns) (hk : 1 ≤ kept ∧ kept < ns.length) : UpOf 1 base kept ns ↔ (ns.getD kept.toNat 0 ≠ 0 ∨ ∃ j : Nat, kept.toNat < j ∧ ns.getD j 0 ≠ 0) := by
  rw [upOf_eq hb hd hk, ← up_iff hb hd (by omega)]
  unfold isUp
  exact ⟨fun h => h.elim (fun q => q.2) (fun q => by omega), fun h => .inl ⟨rfl, h⟩⟩
-- rows with a turned figure
theorem turned {x : Int} (hx : 0 ≤ x ∧ x < base) (hd : InB base ns) (hk : 1 ≤ kept ∧ kept < ns.length) (hl : ns.length ≤ 100) :
    (ns.take kept.toNat ++ [x]).take kept.toNat = ns.take kept.toNat ∧ kept < ((ns.take kept.toNat ++ [x]).length : Nat) ∧ (ns.take kept.toNat ++ [x]).length ≤ 101 ∧ InB base (ns.take kept.toNat ++ [x]) ∧
      (ns.take kept.toNat ++ [x]).getD kept.toNat 0 = x ∧ mkS (List.take kept.toNat (List.map dig ns) ++ [sd.getD x.toNat 0]) = txt (ns.take kept.toNat ++ [x]) := by
  have hl' : (ns.take kept.toNat).length = kept.toNat := by rw [List.length_take]; omega
  refine ⟨?_, ?_, ?_, (hd.take _).app (InB.cons hx InB.nil), ?_, ?_⟩
  · rw [List.take_append_of_le_length (by omega), List.take_take, Nat.min_self]
  · rw [List.length_append, hl', List.length_singleton]; omega
  · rw [List.length_append, hl', List.length_singleton]; omega
  · rw [List.getD_eq_getElem?_getD, List.getElem?_append_right (by omega), hl', Nat.sub_self]; rfl
  · unfold txt
    rw [List.map_append, List.map_take]
    rfl
end
-- the half and the odd figures
theorem half_eq {ns : List Int} {base kept : Int} (hb : base = 2 ∨ base = 8 ∨ base = 10 ∨ base = 16) (hd : InB base ns) (hk : 1 ≤ kept ∧ kept < ns.length) :
    (mkS [(ns.map dig).getD kept.toNat 0] == mkS [(List.take (base - (base.fdiv 2 + base.fmod 2)).toNat (List.drop (base.fdiv 2 + base.fmod 2).toNat sd)).getD (Int.toNat 0) 0]) = true ↔ ns.getD kept.toNat 0 = base / 2 := by
  have hi := hd _ (getD_mem (show kept.toNat < ns.length by omega))
  rw [beq_iff_eq, map_dig (by omega)]
  have e : (List.take (base - (base.fdiv 2 + base.fmod 2)).toNat (List.drop (base.fdiv 2 + base.fmod 2).toNat sd)).getD (Int.toNat 0) 0 = dig (base / 2) := by
    rcases hb with rfl | rfl | rfl | rfl <;> decide
  rw [e]
  constructor
  · intro h
    exact dig_inj (by omega) (by omega) (List.cons.inj (mkS_inj h)).1
  · intro h; rw [h]
theorem odd_in {d base : Int} (hb : base = 2 ∨ base = 8 ∨ base = 10 ∨ base = 16) (hd : 0 ≤ d ∧ d < base) (a b c : Tok) :
    dig d ∈ (Txt.sliceBy (Str.ofString "0123456789abcdefghijklmnopqrstuvwxyz") (some (1, a)) (some (base, b)) (2, c)).cps.toList ↔ d % 2 = 1 := by
  have e : ∀ base : Int, (Txt.sliceBy (Str.ofString "0123456789abcdefghijklmnopqrstuvwxyz") (some (1, a)) (some (base, b)) (2, c)) = (Txt.sliceBy (mkS sd) (some (1, 0)) (some (base, 0)) (2, 0)) := by
    intro base; rw [std_eq]; rfl
  rw [e]
  have go : ∀ n : Nat, n < 17 → ∀ m : Nat, m < 17 → (¬ (m = 2 ∨ m = 8 ∨ m = 10 ∨ m = 16) ∨ ¬ n < m ∨ decide (sd.getD n 0 ∈ (Txt.sliceBy (mkS sd) (some (1, 0)) (some ((m : Int), 0)) (2, 0)).cps.toList) = decide (n % 2 = 1)) := by decide +kernel
  have h := ((go d.toNat (by omega) base.toNat (by omega)).resolve_left (by omega)).resolve_left (by omega)
  rw [decide_eq_decide, show ((base.toNat : Nat) : Int) = base by omega] at h
  exact h.trans (by omega)
section
variable {ns : List Int} {base kept : Int}
theorem z_ne (hd : InB base ns) (hb : 2 ≤ base ∧ base ≤ 16) (hk : 1 ≤ kept ∧ kept < ns.length) (hlen : (txt ns).length = ns.length) {kN : Int} {pre : List Int} (e : kN = kept + 1 + (pre.length : Int)) (hlt : pre.length < (((txt ns).length : Int) - (kept + 1)).toNat)
    (h : (mkS [(ns.map dig).getD kN.toNat 0] != Str.ofString "0") = true) : kept.toNat < kN.toNat ∧ ns.getD kN.toNat 0 ≠ 0 :=
  ⟨by omega, fun q => by rw [(z_eq hd hb (by omega) (by omega)).mpr q] at h; cases h⟩
theorem odd_at (hb : base = 2 ∨ base = 8 ∨ base = 10 ∨ base = 16) (hd : InB base ns) (hk : 1 ≤ kept ∧ kept < ns.length) {a b c : Tok} :
    ((ns.map dig).getD (kept - 1).toNat 0 ∈ (Txt.sliceBy (Str.ofString "0123456789abcdefghijklmnopqrstuvwxyz") (some (1, a)) (some (base, b)) (2, c)).cps.toList) ↔ ns.getD (kept - 1).toNat 0 % 2 = 1 := by
  rw [map_dig (by omega)]
  exact odd_in hb (hd _ (getD_mem (by omega))) a b c
theorem not_half (hb : base = 2 ∨ base = 8 ∨ base = 10 ∨ base = 16) (hd : InB base ns) (hk : 1 ≤ kept ∧ kept < ns.length)
    (h : (mkS [(ns.map dig).getD kept.toNat 0] == mkS [(List.take (base - (base.fdiv 2 + base.fmod 2)).toNat (List.drop (base.fdiv 2 + base.fmod 2).toNat sd)).getD (Int.toNat 0) 0]) = false) : ns.getD kept.toNat 0 ≠ base / 2 :=
  fun q => by rw [(half_eq hb hd hk).mpr q] at h; cases h
end
section
variable {g h' : Heap} {L' : Addr} {s : Shared} {ns : List Int} {kept base lo : Int} {up : Prop} {m : Str → Option Value} {tk : Nat} {td tc te tr tx : Tok} {Tx : Str}
theorem MidR.same (hIn : InB base ns) (hk : 1 ≤ kept ∧ kept < ns.length) (hl : ns.length ≤ 100) (h5 : 1 ≤ lo ∧ lo ≤ base) (h6 : lo ≤ ns.getD kept.toNat 0 ↔ up) (F : Fr g L' h' m)
    (e1 : m (Str.ofString "digits") = some (.str (txt ns) td)) (e2 : m (Str.ofString "dps") = some (.int kept tc)) (e3 : m (Str.ofString "base") = some (.int base te))
    (e4 : m (Str.ofString "rnd_digs") = some (.str (mkS ((sd.drop lo.toNat).take (base - lo).toNat)) tr)) (e5 : m (Str.ofString "exponent") = some (.int 0 tx)) (e6 : m (Str.ofString "fixed") = some (.bool false)) :
    MidR g L' s ns kept base up { s with heap := h', toks := tk } := MidR.mk ns lo F rfl e1 e2 e3 e4 e5 e6 rfl hk.2 (by omega) hIn h5 h6
theorem MidR.turn {x : Int} (hx : 0 ≤ x ∧ x < base) (hIn : InB base ns) (hk : 1 ≤ kept ∧ kept < ns.length) (hl : ns.length ≤ 100) (h5 : 1 ≤ lo ∧ lo ≤ base) (h6 : lo ≤ x ↔ up) (F : Fr g L' h' m)
    (e1 : m (Str.ofString "digits") = some (.str (mkS (List.take kept.toNat (List.map dig ns) ++ [sd.getD x.toNat 0])) td)) (e2 : m (Str.ofString "dps") = some (.int kept tc)) (e3 : m (Str.ofString "base") = some (.int base te))
    (e4 : m (Str.ofString "rnd_digs") = some (.str (mkS ((sd.drop lo.toNat).take (base - lo).toNat)) tr)) (e5 : m (Str.ofString "exponent") = some (.int 0 tx)) (e6 : m (Str.ofString "fixed") = some (.bool false)) :
    MidR g L' s ns kept base up { s with heap := h', toks := tk } :=
  have ht := turned hx hIn hk hl
  MidR.mk (ns.take kept.toNat ++ [x]) lo F ht.2.2.2.2.2 e1 e2 e3 e4 e5 e6 ht.1 ht.2.1 ht.2.2.1 ht.2.2.2.1 h5 (by rw [ht.2.2.2.2.1]; exact h6)
end
section
variable {ns : List Int} {base kept : Int}
theorem due_down (hb : 2 ≤ base) (hd : InB base ns) (hk : 1 ≤ kept ∧ kept < ns.length) :
    due 0 (base ^ ((ns.length : Int) - kept).toNat) (worth base ns / base ^ ((ns.length : Int) - kept).toNat) (worth base ns % base ^ ((ns.length : Int) - kept).toNat) = worth base (ns.take kept.toNat) := by
  have e : ((ns.length : Int) - kept).toNat = ns.length - kept.toNat := by omega
  rw [due_not (by rintro (⟨h, _⟩ | ⟨h, _⟩) <;> omega), e, (split_at hb hd kept.toNat (by omega)).1]
theorem midU1 (hb : 2 ≤ base ∧ base ≤ 16) (hd : InB base ns) (hk : 1 ≤ kept ∧ kept < ns.length) {j : Nat} (hj : kept.toNat < j ∧ ns.getD j 0 ≠ 0) : (1 : Int) ≤ 1 ↔ UpOf 1 base kept ns := by
  rw [midU hb.1 hd hk]
  exact ⟨fun _ => .inr ⟨j, hj⟩, fun _ => Int.le_refl _⟩
theorem midU2 (hb : 2 ≤ base ∧ base ≤ 16) (hd : InB base ns) (hk : 1 ≤ kept ∧ kept < ns.length) (h0 : (mkS [(ns.map dig).getD kept.toNat 0] == Str.ofString "0") = true) (hz : ∀ j : Nat, kept.toNat < j → ns.getD j 0 = 0) :
    (1 : Int) ≤ ns.getD kept.toNat 0 ↔ UpOf 1 base kept ns := by
  rw [midU hb.1 hd hk, (z_eq' hd hb (by omega) (by omega)).mp h0]
  exact ⟨fun q => by omega, fun q => q.elim (fun q => absurd rfl q) fun ⟨j, q1, q2⟩ => absurd (hz j q1) q2⟩
theorem midU3 (hb : 2 ≤ base ∧ base ≤ 16) (hd : InB base ns) (hk : 1 ≤ kept ∧ kept < ns.length) (h0 : (mkS [(ns.map dig).getD kept.toNat 0] == Str.ofString "0") = false) :
    (1 : Int) ≤ ns.getD kept.toNat 0 ↔ UpOf 1 base kept ns := by
  have hi := hd _ (getD_mem (show kept.toNat < ns.length by omega))
  have hne : ns.getD kept.toNat 0 ≠ 0 := fun q => by rw [(z_eq' hd hb (by omega) (by omega)).mpr q] at h0; cases h0
  rw [midU hb.1 hd hk]
  exact ⟨fun q => .inl hne, fun _ => by omega⟩
end

end WA
section WN
-- figures of a whole number, the least first
def le (b : Nat) (n : Nat) : List Int := if h : n = 0 ∨ b < 2 then [] else ((n % b : Nat) : Int) :: le b (n / b)
termination_by n
decreasing_by exact Nat.div_lt_self (by omega) (by omega)
theorem le_zero (b : Nat) : le b 0 = [] := by rw [le]; simp
theorem le_pos {b n : Nat} (hb : 2 ≤ b) (hn : n ≠ 0) : le b n = ((n % b : Nat) : Int) :: le b (n / b) := by
  rw [le, dif_neg (by omega)]
theorem le_in {b : Nat} (hb : 2 ≤ b) (n : Nat) : InB b (le b n) := by
  induction n using Nat.strongRecOn with
  | _ n ih =>
    by_cases hn : n = 0
    · subst hn; rw [le_zero]; exact InB.nil
    · rw [le_pos hb hn]
      refine InB.cons ?_ (ih _ (Nat.div_lt_self (by omega) (by omega)))
      have := Nat.mod_lt n (show 0 < b by omega)
      omega
theorem le_worth {b : Nat} (hb : 2 ≤ b) (n : Nat) : worth b (le b n).reverse = n := by
  induction n using Nat.strongRecOn with
  | _ n ih =>
    by_cases hn : n = 0
    · subst hn; rw [le_zero]; rfl
    · rw [le_pos hb hn, List.reverse_cons, worth_app, worth_one, ih _ (Nat.div_lt_self (by omega) (by omega))]
      rw [List.length_singleton, Int.pow_one]
      have := Nat.div_add_mod n b
      have e : ((n / b : Nat) : Int) * (b : Int) = ((b * (n / b) : Nat) : Int) := by rw [Int.natCast_mul, Int.mul_comm]
      rw [e]; omega
theorem le_len {b : Nat} (hb : 2 ≤ b) (k : Nat) : ∀ n : Nat, n < 2 ^ k → (le b n).length ≤ k := by
  induction k with
  | zero => intro n hn; have : n = 0 := by omega
            subst this; rw [le_zero]; exact Nat.le_refl _
  | succ k ih =>
    intro n hn
    by_cases h0 : n = 0
    · subst h0; rw [le_zero]; exact Nat.zero_le _
    · rw [le_pos hb h0, List.length_cons]
      have : n / b < 2 ^ k := by
        rw [Nat.div_lt_iff_lt_mul (by omega)]
        have h1 : 2 ^ k * 2 ≤ 2 ^ k * b := Nat.mul_le_mul_left _ hb
        rw [Nat.pow_succ] at hn
        omega
      have := ih _ this
      omega
theorem le_last {b : Nat} (hb : 2 ≤ b) (n : Nat) (hn : n ≠ 0) : ∃ d r, (le b n).reverse = d :: r ∧ d ≠ 0 := by
  induction n using Nat.strongRecOn with
  | _ n ih =>
    rw [le_pos hb hn, List.reverse_cons]
    by_cases h0 : n / b = 0
    · rw [h0, le_zero]
      refine ⟨_, [], rfl, ?_⟩
      have := Nat.div_add_mod n b
      rw [h0] at this
      omega
    · obtain ⟨d, r, e, hd⟩ := ih _ (Nat.div_lt_self (by omega) (by omega)) h0
      exact ⟨d, r ++ [_], by rw [e]; rfl, hd⟩
def one (d : Int) : PySem.Str := mkS [dig d]
noncomputable def snum (b n : Int) : PySem.Str := if b = 10 then PySem.Str.ofString (toString n) else txt (le b.toNat n.toNat).reverse
-- the while's word
def Digs (b n₀ n : Int) (digs : List PySem.Str) : Prop := 0 ≤ n ∧ n ≤ n₀ ∧ digs ++ (le b.toNat n.toNat).map one = (le b.toNat n₀.toNat).map one ∧ digs.length ≤ 200
theorem digs_start {b n : Int} (h : 0 ≤ n) : Digs b n n [] := ⟨h, Int.le_refl _, rfl, by simp⟩
theorem digs_step {b n₀ n : Int} {digs : List PySem.Str} (hb : 2 ≤ b) (hn₀ : n₀.natAbs < 2 ^ 200) (h : Digs b n₀ n digs) (hn : n ≠ 0) : Digs b n₀ (n.fdiv b) (digs ++ [mkS [sd.getD (n.fmod b).toNat 0]]) := by
  obtain ⟨h1, h2, h3, h4⟩ := h
  have e1 : n.fdiv b = n / b := Int.fdiv_eq_ediv_of_nonneg _ (by omega)
  have e2 : n.fmod b = n % b := Int.fmod_eq_emod_of_nonneg _ (by omega)
  have hd0 : 0 ≤ n / b := Int.ediv_nonneg h1 (by omega)
  have hd1 : n / b ≤ n := Int.ediv_le_self _ h1
  have e3 : (n / b).toNat = n.toNat / b.toNat := by
    obtain ⟨m, rfl⟩ := Int.eq_ofNat_of_zero_le h1
    obtain ⟨c, rfl⟩ := Int.eq_ofNat_of_zero_le (show 0 ≤ b by omega)
    rw [← Int.natCast_ediv, Int.toNat_natCast, Int.toNat_natCast, Int.toNat_natCast]
  have e4 : (((n.toNat % b.toNat : Nat)) : Int) = n % b := by
    rw [Int.natCast_emod, Int.toNat_of_nonneg h1, Int.toNat_of_nonneg (by omega)]
  have h5 := le_pos (b := b.toNat) (n := n.toNat) (by omega) (by omega)
  rw [h5, e4, ← e3] at h3
  have hl : (digs ++ [mkS [sd.getD (n.fmod b).toNat 0]]).length ≤ 200 := by
    have := congrArg List.length h3
    have hm := le_len (b := b.toNat) (by omega) 200 n₀.toNat (by omega)
    simp only [List.length_append, List.length_map, List.length_cons, List.length_nil] at this ⊢
    omega
  refine ⟨by rw [e1]; exact hd0, by rw [e1]; omega, ?_, hl⟩
  rw [e1, e2, List.append_assoc]
  exact h3
theorem digs_end {b n₀ n : Int} {digs : List PySem.Str} (h : Digs b n₀ n digs) (hn : n = 0) : digs = (le b.toNat n₀.toNat).map one := by
  obtain ⟨_, _, h3, _⟩ := h
  rw [hn] at h3
  rw [show (0 : Int).toNat = 0 from rfl, le_zero, List.map_nil, List.append_nil] at h3
  exact h3
theorem fdiv_less {n b : Int} (hb : 2 ≤ b) (h : 0 ≤ n) (hn : n ≠ 0) : (n.fdiv b).toNat < n.toNat := by
  have e1 : n.fdiv b = n / b := Int.fdiv_eq_ediv_of_nonneg _ (by omega)
  rw [e1]
  have := Int.ediv_lt_self_of_pos_of_ne_one (x := n) (y := b) (by omega) (by omega)
  have : 0 ≤ n / b := Int.ediv_nonneg h (by omega)
  omega
theorem join_one (l : List Int) : Txt.join (PySem.Str.ofString "") (l.map one) = txt l := by
  have : l.map one = (l.map fun d => [dig d]).map mkS := by rw [List.map_map]; rfl
  rw [this, join_mkS, txt]
  congr 1
  induction l with
  | nil => rfl
  | cons a r ih => rw [List.map_cons, List.flatten_cons, ih (by rw [List.map_map]; rfl)]; rfl
theorem strs_rev : ∀ {vs : List Value} {ss : List PySem.Str}, PyProof.Rows.StrsAre vs ss → PyProof.Rows.StrsAre vs.reverse ss.reverse
  | _, _, .nil => .nil
  | _, _, .cons x t h => by
    rw [List.reverse_cons, List.reverse_cons]
    exact PyProof.Rows.StrsAre.append' (strs_rev h) (.cons x t .nil)
theorem r_rev {prog : Program} {w : World} {A : Around} {E : Value → Shared → Prop} {s : Shared} {h₀ : Heap} {L l : Addr} {m : Str → Option Value} {news : List (Addr × Obj)} {value slice : PySem.Expr} {vs : List Value} {ss : List PySem.Str} {i : Int} {u : Tok} {ops : List Value} {Q : Value → Shared → Prop}
    (F : Fr h₀ L s.heap m) (N : News h₀ L s.heap news) (hl : s.heap.IsList l vs.toArray) (hi : PyProof.Rows.StrsAre vs ss) (hn : ss.length ≤ 1000) (e : i = -1)
    (h : ∀ D ws h', Fr h₀ L h' m → News h₀ L h' ((D, listOf (List.toArray ws) 0) :: news) → (∀ p ∈ news, p.1 < D) → PyProof.Rows.StrsAre ws ss.reverse → Q (.ref D) { s with heap := h' })
    (hs : subscripted slice false (.ref l) (.ref s.heap.objs.size) = operate ops (getItem (.ref l) (.ref s.heap.objs.size))) (ht : ∀ r, letTemporaryGo value (.ref l) r = pure ()) :
    wpAny (model prog w) A (subscriptTail value slice (.ref l) (.ref s.heap.objs.size)) Q E { s with heap := s.heap.push { cls := .type "slice", data := .fields #[.none, .none, .int i u] } } := by
  subst e
  exact krv_lit (its := vs.toArray) (zs := vs.reverse) F N hl (IsPart.int _ _) rfl (fun D h' F' N' l1 => h D vs.reverse h' F' N' l1 (strs_rev hi)) hs ht
    (by rw [List.size_toArray, hi.length, sizeLine_eq]; omega)
theorem sum_ones : ∀ (L : List PySem.Str), (∀ a ∈ L, a.length = 1) → (L.map (·.length)).sum = L.length
  | [], _ => by simp
  | a :: L, h => by
    have ih := sum_ones L (fun b hb => h b (List.mem_cons_of_mem _ hb))
    have ha := h a (List.mem_cons_self ..)
    simp only [List.map_cons, List.sum_cons, List.length_cons]
    omega
theorem digs_ok {b n₀ n : Int} {digs : List PySem.Str} (h : Digs b n₀ n digs) : ((digs.reverse).map (·.length)).sum + digs.reverse.length * (PySem.Str.ofString "").length ≤ 16777216 := by
  obtain ⟨_, _, h3, h4⟩ := h
  have ho : ∀ a ∈ digs.reverse, a.length = 1 := by
    intro a ha
    have : a ∈ (le b.toNat n₀.toNat).map one := by rw [← h3]; exact List.mem_append_left _ (List.mem_reverse.mp ha)
    obtain ⟨d, _, e⟩ := List.mem_map.mp this
    rw [← e]; exact mkS_len _
  rw [sum_ones _ ho, List.length_reverse, show (PySem.Str.ofString "").length = 0 by decide]
  omega
theorem digs_text {b n₀ n : Int} {digs : List PySem.Str} (hb : ¬ b = 10) (h : Digs b n₀ n digs) (hn : n = 0) : Txt.join (PySem.Str.ofString "") digs.reverse = snum b n₀ := by
  rw [digs_end h hn, ← List.map_reverse, join_one]
  unfold snum
  rw [if_neg hb]
theorem log_ok {n : Int} (h : n.natAbs < 2 ^ 200) : n.natAbs.log2 < 1920 := by
  by_cases h0 : n.natAbs = 0
  · rw [h0]; decide
  · have := (Nat.log2_lt h0).mpr h
    omega
theorem snum_ten {b n : Int} (h : b = 10) : PySem.Str.ofString (toString n) = snum b n := by unfold snum; rw [if_pos h]
theorem digit_dig : ∀ d : Nat, d < 10 → (Nat.digitChar d).toNat = dig (d : Int) := by decide
theorem ten_txt (m : Nat) (hm : m ≠ 0) : (Nat.toDigits 10 m).map Char.toNat = ((le 10 m).reverse).map dig := by
  induction m using Nat.strongRecOn with
  | _ m ih =>
    have hlt : m % 10 < 10 := Nat.mod_lt m (by decide)
    rw [le_pos (by decide) hm, List.reverse_cons, List.map_append]
    by_cases h : m < 10
    · rw [Nat.toDigits_of_lt_base h, Nat.div_eq_of_lt h, le_zero, Nat.mod_eq_of_lt h]
      show [(Nat.digitChar m).toNat] = [dig _]
      rw [digit_dig m h]
    · have t : Nat.toDigits 10 (m / 10) ++ Nat.toDigits 10 (m % 10) = Nat.toDigits 10 (10 * (m / 10) + m % 10) := Nat.toDigits_append_toDigits (by decide) (by omega) hlt
      rw [Nat.div_add_mod] at t
      rw [← t, List.map_append, Nat.toDigits_of_lt_base hlt, ih (m / 10) (by omega) (by omega)]
      show _ ++ [(Nat.digitChar (m % 10)).toNat] = _ ++ [dig _]
      rw [digit_dig _ hlt]
def figs (b n : Int) : List Int := (le b.toNat n.toNat).reverse
theorem snum_txt {b n : Int} (hn : 0 < n) : snum b n = txt (figs b n) := by
  unfold snum figs
  split
  · rename_i h
    subst h
    obtain ⟨m, rfl⟩ := Int.eq_ofNat_of_zero_le (Int.le_of_lt hn)
    have h1 := KIN.signs_num m
    rw [ten_txt m (by omega)] at h1
    refine PySem.Str.ext' (Array.toList_inj.mp ?_)
    exact h1
  · rfl
theorem figs_in {b n : Int} (hb : 2 ≤ b ∧ b ≤ 16) : InB b (figs b n) := by
  intro d hd
  have := le_in (b := b.toNat) (by omega) n.toNat d (List.mem_reverse.mp hd)
  omega
theorem figs_worth {b n : Int} (hb : 2 ≤ b ∧ b ≤ 16) (hn : 0 ≤ n) : worth b (figs b n) = n := by
  have := le_worth (b := b.toNat) (by omega) n.toNat
  rw [Int.toNat_of_nonneg hn, Int.toNat_of_nonneg (by omega)] at this
  exact this
theorem figs_len {b n : Int} (hb : 2 ≤ b ∧ b ≤ 16) (hz : n.natAbs < 2 ^ 200) : (figs b n).length ≤ 200 := by
  unfold figs
  rw [List.length_reverse]
  have e : n.toNat ≤ n.natAbs := by omega
  exact le_len (by omega) 200 n.toNat (Nat.lt_of_le_of_lt e hz)
theorem figs_head {b n : Int} (hb : 2 ≤ b ∧ b ≤ 16) (hn : 0 < n) : ∃ d r, figs b n = d :: r ∧ d ≠ 0 := le_last (by omega) n.toNat (by omega)

end WN
section W66
local macro_rules | `(tactic| walk_at "MineOf") => `(tactic| (
  refine' does_of' ?k6 ?k7 ?k9 ?kB ?_ ?c2 ?c3 ?c4 ?c5 ?c6
  (case k6 => k_is); (case k7 => k_is); (case k9 => intro s9 kIn9; first | exact BindsTo.of_eq rfl | exact binds_K kIn9 rfl (by k_is) rfl rfl rfl | fail "enter: no rule for these arguments"); (case c5 => decide); (case c6 => decide); (case kB => exact locs rfl); (case c2 => exact rfl); (case c3 => exact rfl); (case c4 => exact rfl)))
set_option hygiene false in
local macro_rules | `(tactic| walk_at "MineEnter") => `(tactic| (
  k_fill
  walk_at "MineOf"
  intro dp un gd cn cs L a ccd cl outer bs0 s g L' h' hdp hun hpre F' N' B' X' T' hck; (try dsimp only at hpre); (try dsimp only); (try k_fold)))
local macro_rules | `(tactic| walk_at "MineEnd") => `(tactic| ((try dsimp only); (try (k_unfold; try dsimp only)); (refine RetP.intro (Fr.keep (by k_asm)) ?_)))
set_option linter.unusedVariables false
local macro_rules | `(tactic| walk_at "MineSteps") => `(tactic| repeat' (first | (k_unfold; (try dsimp only)) | ((with_reducible show InvEndN _ _ _ _ _ _ _); kst_close) | walk1 | (dsimp only; walk1) | (k_end; wrow_close) | (leave1; walk_say "STEP leave1"; try dsimp only) | fail "no step"))
local macro_rules | `(tactic| walk_at "MineUse") => `(tactic| (
  (case k1 => k_asm); (case k2 => k_asm); (case k3 => k_asm); (case k4 => k_asm); (case k5 => k_asm); (case kK => first | exact rfl | assumption); (case kd => first | ((try dsimp only); omega) | decide +kernel); (case ku => first | ((try dsimp only); omega) | decide +kernel)))
local macro_rules | `(tactic| walk_at "MineStr") => `(tactic| first | with_reducible exact rfl | with_reducible exact txt_eq _ | with_reducible exact std_eq | with_reducible exact hex_eq | with_reducible exact zero_eq | with_reducible exact one_eq | with_reducible exact minus_eq | with_reducible assumption)
local macro_rules | `(tactic| walk_at "MineLen") => `(tactic| ((try simp only [sd_len, hx_len, List.length_map, List.length_take, List.length_drop, List.length_append, List.length_cons, List.length_nil, List.length_replicate]); omega))
local macro_rules | `(tactic| walk_at "MineItem") => `(tactic| (k_here; (with_reducible show wpAny _ _ (subscriptTail _ _ (Value.str _ _) (Value.int _ _)) _ _ _); (refine' r_item ?hx ?hn ?h0 ?h1 ?_ ?hs ?ht; (case hx => walk_at "MineStr"); (case hn => walk_at "MineLen"); (case h0 => walk_at "MineLen"); (case h1 => walk_at "MineLen"); (case hs => with_unfolding_all rfl); (case ht => intro _; with_unfolding_all rfl))))
local macro_rules | `(tactic| walk_at "MineSlice") => `(tactic| (k_here; (with_reducible rename Fr _ _ _ _ => F'); (with_reducible rename News _ _ _ _ => N'); first
  | ((with_reducible show wpAny _ _ (subscriptTail _ (Expr.Slice none (some _) none _) (Value.str _ _) _) _ _ _); (refine' r_slice_to (s := ⟨_, _, _, _, _⟩) ?hx ?hn F' N' ?h0 ?h2 ?_ ?hs ?ht; (case hx => walk_at "MineStr"); (case hn => walk_at "MineLen"); (case h0 => walk_at "MineLen"); (case h2 => walk_at "MineLen"); (case hs => with_unfolding_all rfl); (case ht => intro _; with_unfolding_all rfl)); intro h' t' k' F'' N''; (try k_sweep))
  | ((with_reducible show wpAny _ _ (subscriptTail _ (Expr.Slice (some _) (some _) none _) (Value.str _ _) _) _ _ _); (refine' r_slice (s := ⟨_, _, _, _, _⟩) ?hx ?hn F' N' ?h0 ?h1 ?h2 ?_ ?hs ?ht; (case hx => walk_at "MineStr"); (case hn => walk_at "MineLen"); (case h0 => walk_at "MineLen"); (case h1 => walk_at "MineLen"); (case h2 => walk_at "MineLen"); (case hs => with_unfolding_all rfl); (case ht => intro _; with_unfolding_all rfl)); intro h' t' k' F'' N''; (try k_sweep))))
local macro_rules | `(tactic| walk_at "subscriptTail Name Name str int") => `(tactic| walk_at "MineItem")
local macro_rules | `(tactic| walk_at "subscriptTail Name Constant str int") => `(tactic| walk_at "MineItem")
local macro_rules | `(tactic| walk_at "subscriptTail Name BinOp str int") => `(tactic| walk_at "MineItem")
local macro_rules | `(tactic| walk_at "subscriptTail Name Slice str ref") => `(tactic| walk_at "MineSlice")
local macro_rules | `(tactic| walk_at "subscriptTail Constant Slice str ref") => `(tactic| walk_at "MineSlice")
local macro_rules | `(tactic| walk_at "execs nil") => `(tactic| ((refine wpAny_execs_nil ?_); dsimp only))
local macro_rules | `(tactic| walk_at "MineTillWhile") => `(tactic| repeat' ((fail_if_success (with_reducible show wpAny _ _ (exec (Stmt.While _ _ _ _) _) _ _ _)); (first | (k_unfold; (try dsimp only)) | walk1 | (dsimp only; walk1))))
local macro_rules | `(tactic| walk_at "MineOfC") => `(tactic| (
  refine' does_ofC ?k6 ?k7 ?k9 ?kB ?kD ?_ ?c2 ?c3 ?c4 ?c6
  (case k6 => k_is); (case k7 => k_is); (case k9 => intro s9 kIn9; first | exact BindsTo.of_eq rfl | exact binds_K kIn9 rfl (by k_is) rfl rfl rfl | fail "enter: no rule for these arguments"); (case c6 => decide); (case kB => exact rfl); (case kD => decide +kernel); (case c2 => exact rfl); (case c3 => exact rfl); (case c4 => exact rfl)))
set_option hygiene false in
local macro_rules | `(tactic| walk_at "MineEnterC") => `(tactic| (
  k_fill
  walk_at "MineOfC"
  intro dp un gd cn cs L a ccd cl outer bs0 s g L' h' tk0 cells hdp hun hpre F' N' Y' B' X' T' hck; k_cells Y'; (try simp only [List.cons_append, List.nil_append] at N'); (try dsimp only at hpre); (try dsimp only); (try k_fold)))
local macro_rules | `(tactic| walk_at "MineTillComp") => `(tactic| repeat' ((fail_if_success (with_reducible show wpAny _ _ (eval (Expr.ListComp _ _ _ _) _) _ _ _)); (first | (k_unfold; (try dsimp only)) | walk1 | (dsimp only; walk1))))
-- _law_worth
theorem foldl_pair (b : Int) (ns : List Int) (a : Int) : (ns.foldl (fun (σ : Int × Unit) n => (σ.1 * b + n, ())) (a, ())).1 = ns.foldl (fun a n => a * b + n) a := by
  induction ns generalizing a with
  | nil => rfl
  | cons n r ih => exact ih _

theorem does_worth (w : World) (mean : ExcName → Option Value) (mg mb : Str → Option Value) (l : Addr) (vs : List Value) (ns : List Int) (b : Int) (tb : Tok)
    (hi : IntsAre vs ns) (hb : 2 ≤ b ∧ b ≤ 16) (hl : ns.length ≤ 200) :
    Dz w mean mg mb
      66 1 [.ref l, .int b tb] (fun h => h.IsList l vs.toArray) (fun _ _ r => ∃ t, r = .int (worth b ns) t) := by
  w_top off
  k_with_none
  unfold Dz
  refine does_with [(Str.ofString "row", .ref l), (Str.ofString "base", .int b tb)] ?_
  walk_at "MineEnter"
  k_steps
  walk_at "MineEnd"
  exact ⟨_, congrArg (Value.int · _) (foldl_pair b ns 0)⟩

end W66
section W78
local macro_rules | `(tactic| walk_at "MineOf") => `(tactic| (
  refine' does_of' ?k6 ?k7 ?k9 ?kB ?_ ?c2 ?c3 ?c4 ?c5 ?c6
  (case k6 => k_is); (case k7 => k_is); (case k9 => intro s9 kIn9; first | exact BindsTo.of_eq rfl | exact binds_K kIn9 rfl (by k_is) rfl rfl rfl | fail "enter: no rule for these arguments"); (case c5 => decide); (case c6 => decide); (case kB => exact locs rfl); (case c2 => exact rfl); (case c3 => exact rfl); (case c4 => exact rfl)))
set_option hygiene false in
local macro_rules | `(tactic| walk_at "MineEnter") => `(tactic| (
  k_fill
  walk_at "MineOf"
  intro dp un gd cn cs L a ccd cl outer bs0 s g L' h' hdp hun hpre F' N' B' X' T' hck; (try dsimp only at hpre); (try dsimp only); (try k_fold)))
local macro_rules | `(tactic| walk_at "MineEnd") => `(tactic| ((try dsimp only); (try (k_unfold; try dsimp only)); (refine RetP.intro (Fr.keep (by k_asm)) ?_)))
set_option linter.unusedVariables false
local macro_rules | `(tactic| walk_at "MineSteps") => `(tactic| repeat' (first | (k_unfold; (try dsimp only)) | ((with_reducible show InvEndN _ _ _ _ _ _ _); kst_close) | walk1 | (dsimp only; walk1) | (k_end; wrow_close) | (leave1; walk_say "STEP leave1"; try dsimp only) | fail "no step"))
local macro_rules | `(tactic| walk_at "MineUse") => `(tactic| (
  (case k1 => k_asm); (case k2 => k_asm); (case k3 => k_asm); (case k4 => k_asm); (case k5 => k_asm); (case kK => first | exact rfl | assumption); (case kd => first | ((try dsimp only); omega) | decide +kernel); (case ku => first | ((try dsimp only); omega) | decide +kernel)))
local macro_rules | `(tactic| walk_at "MineStr") => `(tactic| first | with_reducible exact rfl | with_reducible exact txt_eq _ | with_reducible exact std_eq | with_reducible exact hex_eq | with_reducible exact zero_eq | with_reducible exact one_eq | with_reducible exact minus_eq | with_reducible assumption)
local macro_rules | `(tactic| walk_at "MineLen") => `(tactic| ((try simp only [sd_len, hx_len, List.length_map, List.length_take, List.length_drop, List.length_append, List.length_cons, List.length_nil, List.length_replicate]); omega))
local macro_rules | `(tactic| walk_at "MineItem") => `(tactic| (k_here; (with_reducible show wpAny _ _ (subscriptTail _ _ (Value.str _ _) (Value.int _ _)) _ _ _); (refine' r_item ?hx ?hn ?h0 ?h1 ?_ ?hs ?ht; (case hx => walk_at "MineStr"); (case hn => walk_at "MineLen"); (case h0 => walk_at "MineLen"); (case h1 => walk_at "MineLen"); (case hs => with_unfolding_all rfl); (case ht => intro _; with_unfolding_all rfl))))
local macro_rules | `(tactic| walk_at "MineSlice") => `(tactic| (k_here; (with_reducible rename Fr _ _ _ _ => F'); (with_reducible rename News _ _ _ _ => N'); first
  | ((with_reducible show wpAny _ _ (subscriptTail _ (Expr.Slice none (some _) none _) (Value.str _ _) _) _ _ _); (refine' r_slice_to (s := ⟨_, _, _, _, _⟩) ?hx ?hn F' N' ?h0 ?h2 ?_ ?hs ?ht; (case hx => walk_at "MineStr"); (case hn => walk_at "MineLen"); (case h0 => walk_at "MineLen"); (case h2 => walk_at "MineLen"); (case hs => with_unfolding_all rfl); (case ht => intro _; with_unfolding_all rfl)); intro h' t' k' F'' N''; (try k_sweep))
  | ((with_reducible show wpAny _ _ (subscriptTail _ (Expr.Slice (some _) (some _) none _) (Value.str _ _) _) _ _ _); (refine' r_slice (s := ⟨_, _, _, _, _⟩) ?hx ?hn F' N' ?h0 ?h1 ?h2 ?_ ?hs ?ht; (case hx => walk_at "MineStr"); (case hn => walk_at "MineLen"); (case h0 => walk_at "MineLen"); (case h1 => walk_at "MineLen"); (case h2 => walk_at "MineLen"); (case hs => with_unfolding_all rfl); (case ht => intro _; with_unfolding_all rfl)); intro h' t' k' F'' N''; (try k_sweep))))
local macro_rules | `(tactic| walk_at "subscriptTail Name Name str int") => `(tactic| walk_at "MineItem")
local macro_rules | `(tactic| walk_at "subscriptTail Name Constant str int") => `(tactic| walk_at "MineItem")
local macro_rules | `(tactic| walk_at "subscriptTail Name BinOp str int") => `(tactic| walk_at "MineItem")
local macro_rules | `(tactic| walk_at "subscriptTail Name Slice str ref") => `(tactic| walk_at "MineSlice")
local macro_rules | `(tactic| walk_at "subscriptTail Constant Slice str ref") => `(tactic| walk_at "MineSlice")
local macro_rules | `(tactic| walk_at "execs nil") => `(tactic| ((refine wpAny_execs_nil ?_); dsimp only))
local macro_rules | `(tactic| walk_at "MineTillWhile") => `(tactic| repeat' ((fail_if_success (with_reducible show wpAny _ _ (exec (Stmt.While _ _ _ _) _) _ _ _)); (first | (k_unfold; (try dsimp only)) | walk1 | (dsimp only; walk1))))
local macro_rules | `(tactic| walk_at "MineOfC") => `(tactic| (
  refine' does_ofC ?k6 ?k7 ?k9 ?kB ?kD ?_ ?c2 ?c3 ?c4 ?c6
  (case k6 => k_is); (case k7 => k_is); (case k9 => intro s9 kIn9; first | exact BindsTo.of_eq rfl | exact binds_K kIn9 rfl (by k_is) rfl rfl rfl | fail "enter: no rule for these arguments"); (case c6 => decide); (case kB => exact rfl); (case kD => decide +kernel); (case c2 => exact rfl); (case c3 => exact rfl); (case c4 => exact rfl)))
set_option hygiene false in
local macro_rules | `(tactic| walk_at "MineEnterC") => `(tactic| (
  k_fill
  walk_at "MineOfC"
  intro dp un gd cn cs L a ccd cl outer bs0 s g L' h' tk0 cells hdp hun hpre F' N' Y' B' X' T' hck; k_cells Y'; (try simp only [List.cons_append, List.nil_append] at N'); (try dsimp only at hpre); (try dsimp only); (try k_fold)))
local macro_rules | `(tactic| walk_at "MineTillComp") => `(tactic| repeat' ((fail_if_success (with_reducible show wpAny _ _ (eval (Expr.ListComp _ _ _ _) _) _ _ _)); (first | (k_unfold; (try dsimp only)) | walk1 | (dsimp only; walk1))))
-- _law_rounded
set_option hygiene false in
local macro_rules | `(tactic| walk_at "call ref") => `(tactic| (k_here; (with_reducible show wpAny _ _ (call (Value.ref 66) _) _ _ _); k_dflt (refine' does_use (does_worth _ _ _ _ _ _ _ _ _ ?hi ?hb ?hl) ?k1 ?k2 ?k3 ?k4 ?k5 ?kK ?kd ?ku ?kp ?_; (case kp => (try dsimp only); is_list); (case hi => assumption); (case hb => assumption); (case hl => omega); walk_at "MineUse"); intro r9 h9 tk9 S9 P9 F9 N9; obtain ⟨t9, rfl⟩ := P9; (try dsimp only); (try k_sweep); (try k_fold)))
local macro_rules | `(tactic| walk_at "call builtin:divmod") => `(tactic| ((with_reducible show wpAny _ _ (call (Value.builtin _) [Value.int _ _, Value.int _ _]) _ _ _); refine divmod_N (by k_asm) (by k_asm) (by assumption) ?_ (Or.inl (noPy_pow (by assumption) (by omega) _)); intro h' F' N'; (try k_sweep)))
theorem does_rounded (w : World) (mean : ExcName → Option Value) (mg mb : Str → Option Value) (l : Addr) (vs : List Value) (ns : List Int) (kept base : Int) (rnd : Str) (minus : Bool) (ta tb tc te : Tok) (dir : Nat)
    (hi : IntsAre vs ns) (hb : 2 ≤ base ∧ base ≤ 16) (hl : ns.length ≤ 100) (hk : 1 ≤ kept ∧ kept < ns.length) (hr : Dir rnd minus dir) :
    Dz w mean mg mb 78 2 [.ref l, .int kept tb, .int base tc, .str rnd te, .bool minus] (fun h => h.IsList l vs.toArray)
      (fun _ _ r => ∃ t, r = .int (due dir (base ^ ((ns.length : Int) - kept).toNat) (worth base ns / base ^ ((ns.length : Int) - kept).toNat) (worth base ns % base ^ ((ns.length : Int) - kept).toNat)) t) := by
  have hpos : 0 < base ^ ((ns.length : Int) - kept).toNat := Int.pow_pos (by omega)
  have hne : base ^ ((ns.length : Int) - kept).toNat ≠ 0 := by omega
  w_top off
  k_with_none
  unfold Dz
  refine does_with [(Str.ofString "row", .ref l), (Str.ofString "kept", .int kept tb), (Str.ofString "base", .int base tc), (Str.ofString "rnd", .str rnd te), (Str.ofString "is_minus", .bool minus)] ?_
  rcases hr with ⟨rfl, rfl⟩ | ⟨rfl, rfl, rfl⟩ | ⟨rfl, rfl, rfl⟩ | ⟨rfl, rfl, rfl⟩ | ⟨rfl, rfl, rfl⟩ | ⟨rfl, rfl⟩ | ⟨rfl, rfl⟩
  all_goals walk_at "MineEnter"
  all_goals walk_at "MineSteps"
  all_goals walk_at "MineEnd"
  all_goals refine ⟨_, congrArg (Value.int · _) ?_⟩
  all_goals have e1 := Int.fdiv_eq_ediv_of_nonneg (worth base ns) (Int.le_of_lt hpos)
  all_goals have e2 := Int.fmod_eq_emod_of_nonneg (worth base ns) (Int.le_of_lt hpos)
  all_goals have e3 : ((worth base ns).fdiv (base ^ ((ns.length : Int) - kept).toNat)).fmod 2 = (worth base ns / base ^ ((ns.length : Int) - kept).toNat) % 2 := by rw [e1]; exact Int.fmod_eq_emod_of_nonneg _ (by decide)
  all_goals rw [e1]
  all_goals unfold due
  all_goals split
  all_goals first | (rename isUp _ _ _ _ => hu; unfold isUp at hu; omega) | (rename ¬ isUp _ _ _ _ => hu; unfold isUp at hu; omega)

end W78
section W52
local macro_rules | `(tactic| walk_at "MineOf") => `(tactic| (
  refine' does_of' ?k6 ?k7 ?k9 ?kB ?_ ?c2 ?c3 ?c4 ?c5 ?c6
  (case k6 => k_is); (case k7 => k_is); (case k9 => intro s9 kIn9; first | exact BindsTo.of_eq rfl | exact binds_K kIn9 rfl (by k_is) rfl rfl rfl | fail "enter: no rule for these arguments"); (case c5 => decide); (case c6 => decide); (case kB => exact locs rfl); (case c2 => exact rfl); (case c3 => exact rfl); (case c4 => exact rfl)))
set_option hygiene false in
local macro_rules | `(tactic| walk_at "MineEnter") => `(tactic| (
  k_fill
  walk_at "MineOf"
  intro dp un gd cn cs L a ccd cl outer bs0 s g L' h' hdp hun hpre F' N' B' X' T' hck; (try dsimp only at hpre); (try dsimp only); (try k_fold)))
local macro_rules | `(tactic| walk_at "MineEnd") => `(tactic| ((try dsimp only); (try (k_unfold; try dsimp only)); (refine RetP.intro (Fr.keep (by k_asm)) ?_)))
set_option linter.unusedVariables false
local macro_rules | `(tactic| walk_at "MineSteps") => `(tactic| repeat' (first | (k_unfold; (try dsimp only)) | ((with_reducible show InvEndN _ _ _ _ _ _ _); kst_close) | walk1 | (dsimp only; walk1) | (k_end; wrow_close) | (leave1; walk_say "STEP leave1"; try dsimp only) | fail "no step"))
local macro_rules | `(tactic| walk_at "MineUse") => `(tactic| (
  (case k1 => k_asm); (case k2 => k_asm); (case k3 => k_asm); (case k4 => k_asm); (case k5 => k_asm); (case kK => first | exact rfl | assumption); (case kd => first | ((try dsimp only); omega) | decide +kernel); (case ku => first | ((try dsimp only); omega) | decide +kernel)))
local macro_rules | `(tactic| walk_at "MineStr") => `(tactic| first | with_reducible exact rfl | with_reducible exact txt_eq _ | with_reducible exact std_eq | with_reducible exact hex_eq | with_reducible exact zero_eq | with_reducible exact one_eq | with_reducible exact minus_eq | with_reducible assumption)
local macro_rules | `(tactic| walk_at "MineLen") => `(tactic| ((try simp only [sd_len, hx_len, List.length_map, List.length_take, List.length_drop, List.length_append, List.length_cons, List.length_nil, List.length_replicate]); omega))
local macro_rules | `(tactic| walk_at "MineItem") => `(tactic| (k_here; (with_reducible show wpAny _ _ (subscriptTail _ _ (Value.str _ _) (Value.int _ _)) _ _ _); (refine' r_item ?hx ?hn ?h0 ?h1 ?_ ?hs ?ht; (case hx => walk_at "MineStr"); (case hn => walk_at "MineLen"); (case h0 => walk_at "MineLen"); (case h1 => walk_at "MineLen"); (case hs => with_unfolding_all rfl); (case ht => intro _; with_unfolding_all rfl))))
local macro_rules | `(tactic| walk_at "MineSlice") => `(tactic| (k_here; (with_reducible rename Fr _ _ _ _ => F'); (with_reducible rename News _ _ _ _ => N'); first
  | ((with_reducible show wpAny _ _ (subscriptTail _ (Expr.Slice none (some _) none _) (Value.str _ _) _) _ _ _); (refine' r_slice_to (s := ⟨_, _, _, _, _⟩) ?hx ?hn F' N' ?h0 ?h2 ?_ ?hs ?ht; (case hx => walk_at "MineStr"); (case hn => walk_at "MineLen"); (case h0 => walk_at "MineLen"); (case h2 => walk_at "MineLen"); (case hs => with_unfolding_all rfl); (case ht => intro _; with_unfolding_all rfl)); intro h' t' k' F'' N''; (try k_sweep))
  | ((with_reducible show wpAny _ _ (subscriptTail _ (Expr.Slice (some _) (some _) none _) (Value.str _ _) _) _ _ _); (refine' r_slice (s := ⟨_, _, _, _, _⟩) ?hx ?hn F' N' ?h0 ?h1 ?h2 ?_ ?hs ?ht; (case hx => walk_at "MineStr"); (case hn => walk_at "MineLen"); (case h0 => walk_at "MineLen"); (case h1 => walk_at "MineLen"); (case h2 => walk_at "MineLen"); (case hs => with_unfolding_all rfl); (case ht => intro _; with_unfolding_all rfl)); intro h' t' k' F'' N''; (try k_sweep))))
local macro_rules | `(tactic| walk_at "subscriptTail Name Name str int") => `(tactic| walk_at "MineItem")
local macro_rules | `(tactic| walk_at "subscriptTail Name Constant str int") => `(tactic| walk_at "MineItem")
local macro_rules | `(tactic| walk_at "subscriptTail Name BinOp str int") => `(tactic| walk_at "MineItem")
local macro_rules | `(tactic| walk_at "subscriptTail Name Slice str ref") => `(tactic| walk_at "MineSlice")
local macro_rules | `(tactic| walk_at "subscriptTail Constant Slice str ref") => `(tactic| walk_at "MineSlice")
local macro_rules | `(tactic| walk_at "execs nil") => `(tactic| ((refine wpAny_execs_nil ?_); dsimp only))
local macro_rules | `(tactic| walk_at "MineTillWhile") => `(tactic| repeat' ((fail_if_success (with_reducible show wpAny _ _ (exec (Stmt.While _ _ _ _) _) _ _ _)); (first | (k_unfold; (try dsimp only)) | walk1 | (dsimp only; walk1))))
local macro_rules | `(tactic| walk_at "MineOfC") => `(tactic| (
  refine' does_ofC ?k6 ?k7 ?k9 ?kB ?kD ?_ ?c2 ?c3 ?c4 ?c6
  (case k6 => k_is); (case k7 => k_is); (case k9 => intro s9 kIn9; first | exact BindsTo.of_eq rfl | exact binds_K kIn9 rfl (by k_is) rfl rfl rfl | fail "enter: no rule for these arguments"); (case c6 => decide); (case kB => exact rfl); (case kD => decide +kernel); (case c2 => exact rfl); (case c3 => exact rfl); (case c4 => exact rfl)))
set_option hygiene false in
local macro_rules | `(tactic| walk_at "MineEnterC") => `(tactic| (
  k_fill
  walk_at "MineOfC"
  intro dp un gd cn cs L a ccd cl outer bs0 s g L' h' tk0 cells hdp hun hpre F' N' Y' B' X' T' hck; k_cells Y'; (try simp only [List.cons_append, List.nil_append] at N'); (try dsimp only at hpre); (try dsimp only); (try k_fold)))
local macro_rules | `(tactic| walk_at "MineTillComp") => `(tactic| repeat' ((fail_if_success (with_reducible show wpAny _ _ (eval (Expr.ListComp _ _ _ _) _) _ _ _)); (first | (k_unfold; (try dsimp only)) | walk1 | (dsimp only; walk1))))
-- _law_mixed
def mixed (ns : List Int) (k : Int) : Int :=
  if 2 ^ 64 ≤ ns.getD k.toNat 0 then ns.getD k.toNat 0 else (ns.getD k.toNat 0 * 6364136223846793005 + (k + 1) * 1442695040888963407) % 2 ^ 190

theorem does_mixed (w : World) (mean : ExcName → Option Value) (mg mb : Str → Option Value) (l : Addr) (vs : List Value) (ns : List Int) (k : Int) (tb : Tok)
    (hi : IntsAre vs ns) (hlay : (PyData.list (List.map PyData.int ns)).layable0 = true) (hb : 0 ≤ k ∧ k ≤ 2)  :
    Dz w mean mg mb 52 1 [.ref l, .int k tb] (fun h => h.IsList l vs.toArray) (fun _ _ r => ∃ t, r = .int (mixed ns k) t) := by
  w_top off
  k_with_none
  unfold Dz
  refine does_with [(Str.ofString "script", .ref l), (Str.ofString "k", .int k tb)] ?_
  walk_at "MineEnter"
  k_steps
  all_goals walk_at "MineEnd"
  all_goals refine ⟨_, congrArg (Value.int · _) ?_⟩
  all_goals unfold mixed
  · rename 2 ^ Int.toNat 64 ≤ _ => h1
    exact (if_pos h1).symm
  · rename ¬ 2 ^ Int.toNat 64 ≤ _ => h1
    rw [Int.fmod_eq_emod_of_nonneg _ (by decide)]
    exact (if_neg h1).symm
  · have e : ns.getD k.toNat 0 = 0 := by
      have : ¬ k.toNat < ns.length := by omega
      simp [List.getD, Nat.not_lt.mp this]
    rw [e, Int.fmod_eq_emod_of_nonneg _ (by decide)]
    exact (if_neg (by decide)).symm

end W52
section W59
local macro_rules | `(tactic| walk_at "MineOf") => `(tactic| (
  refine' does_of' ?k6 ?k7 ?k9 ?kB ?_ ?c2 ?c3 ?c4 ?c5 ?c6
  (case k6 => k_is); (case k7 => k_is); (case k9 => intro s9 kIn9; first | exact BindsTo.of_eq rfl | exact binds_K kIn9 rfl (by k_is) rfl rfl rfl | fail "enter: no rule for these arguments"); (case c5 => decide); (case c6 => decide); (case kB => exact locs rfl); (case c2 => exact rfl); (case c3 => exact rfl); (case c4 => exact rfl)))
set_option hygiene false in
local macro_rules | `(tactic| walk_at "MineEnter") => `(tactic| (
  k_fill
  walk_at "MineOf"
  intro dp un gd cn cs L a ccd cl outer bs0 s g L' h' hdp hun hpre F' N' B' X' T' hck; (try dsimp only at hpre); (try dsimp only); (try k_fold)))
local macro_rules | `(tactic| walk_at "MineEnd") => `(tactic| ((try dsimp only); (try (k_unfold; try dsimp only)); (refine RetP.intro (Fr.keep (by k_asm)) ?_)))
set_option linter.unusedVariables false
local macro_rules | `(tactic| walk_at "MineSteps") => `(tactic| repeat' (first | (k_unfold; (try dsimp only)) | ((with_reducible show InvEndN _ _ _ _ _ _ _); kst_close) | walk1 | (dsimp only; walk1) | (k_end; wrow_close) | (leave1; walk_say "STEP leave1"; try dsimp only) | fail "no step"))
local macro_rules | `(tactic| walk_at "MineUse") => `(tactic| (
  (case k1 => k_asm); (case k2 => k_asm); (case k3 => k_asm); (case k4 => k_asm); (case k5 => k_asm); (case kK => first | exact rfl | assumption); (case kd => first | ((try dsimp only); omega) | decide +kernel); (case ku => first | ((try dsimp only); omega) | decide +kernel)))
local macro_rules | `(tactic| walk_at "MineStr") => `(tactic| first | with_reducible exact rfl | with_reducible exact txt_eq _ | with_reducible exact std_eq | with_reducible exact hex_eq | with_reducible exact zero_eq | with_reducible exact one_eq | with_reducible exact minus_eq | with_reducible assumption)
local macro_rules | `(tactic| walk_at "MineLen") => `(tactic| ((try simp only [sd_len, hx_len, List.length_map, List.length_take, List.length_drop, List.length_append, List.length_cons, List.length_nil, List.length_replicate]); omega))
local macro_rules | `(tactic| walk_at "MineItem") => `(tactic| (k_here; (with_reducible show wpAny _ _ (subscriptTail _ _ (Value.str _ _) (Value.int _ _)) _ _ _); (refine' r_item ?hx ?hn ?h0 ?h1 ?_ ?hs ?ht; (case hx => walk_at "MineStr"); (case hn => walk_at "MineLen"); (case h0 => walk_at "MineLen"); (case h1 => walk_at "MineLen"); (case hs => with_unfolding_all rfl); (case ht => intro _; with_unfolding_all rfl))))
local macro_rules | `(tactic| walk_at "MineSlice") => `(tactic| (k_here; (with_reducible rename Fr _ _ _ _ => F'); (with_reducible rename News _ _ _ _ => N'); first
  | ((with_reducible show wpAny _ _ (subscriptTail _ (Expr.Slice none (some _) none _) (Value.str _ _) _) _ _ _); (refine' r_slice_to (s := ⟨_, _, _, _, _⟩) ?hx ?hn F' N' ?h0 ?h2 ?_ ?hs ?ht; (case hx => walk_at "MineStr"); (case hn => walk_at "MineLen"); (case h0 => walk_at "MineLen"); (case h2 => walk_at "MineLen"); (case hs => with_unfolding_all rfl); (case ht => intro _; with_unfolding_all rfl)); intro h' t' k' F'' N''; (try k_sweep))
  | ((with_reducible show wpAny _ _ (subscriptTail _ (Expr.Slice (some _) (some _) none _) (Value.str _ _) _) _ _ _); (refine' r_slice (s := ⟨_, _, _, _, _⟩) ?hx ?hn F' N' ?h0 ?h1 ?h2 ?_ ?hs ?ht; (case hx => walk_at "MineStr"); (case hn => walk_at "MineLen"); (case h0 => walk_at "MineLen"); (case h1 => walk_at "MineLen"); (case h2 => walk_at "MineLen"); (case hs => with_unfolding_all rfl); (case ht => intro _; with_unfolding_all rfl)); intro h' t' k' F'' N''; (try k_sweep))))
local macro_rules | `(tactic| walk_at "subscriptTail Name Name str int") => `(tactic| walk_at "MineItem")
local macro_rules | `(tactic| walk_at "subscriptTail Name Constant str int") => `(tactic| walk_at "MineItem")
local macro_rules | `(tactic| walk_at "subscriptTail Name BinOp str int") => `(tactic| walk_at "MineItem")
local macro_rules | `(tactic| walk_at "subscriptTail Name Slice str ref") => `(tactic| walk_at "MineSlice")
local macro_rules | `(tactic| walk_at "subscriptTail Constant Slice str ref") => `(tactic| walk_at "MineSlice")
local macro_rules | `(tactic| walk_at "execs nil") => `(tactic| ((refine wpAny_execs_nil ?_); dsimp only))
local macro_rules | `(tactic| walk_at "MineTillWhile") => `(tactic| repeat' ((fail_if_success (with_reducible show wpAny _ _ (exec (Stmt.While _ _ _ _) _) _ _ _)); (first | (k_unfold; (try dsimp only)) | walk1 | (dsimp only; walk1))))
local macro_rules | `(tactic| walk_at "MineOfC") => `(tactic| (
  refine' does_ofC ?k6 ?k7 ?k9 ?kB ?kD ?_ ?c2 ?c3 ?c4 ?c6
  (case k6 => k_is); (case k7 => k_is); (case k9 => intro s9 kIn9; first | exact BindsTo.of_eq rfl | exact binds_K kIn9 rfl (by k_is) rfl rfl rfl | fail "enter: no rule for these arguments"); (case c6 => decide); (case kB => exact rfl); (case kD => decide +kernel); (case c2 => exact rfl); (case c3 => exact rfl); (case c4 => exact rfl)))
set_option hygiene false in
local macro_rules | `(tactic| walk_at "MineEnterC") => `(tactic| (
  k_fill
  walk_at "MineOfC"
  intro dp un gd cn cs L a ccd cl outer bs0 s g L' h' tk0 cells hdp hun hpre F' N' Y' B' X' T' hck; k_cells Y'; (try simp only [List.cons_append, List.nil_append] at N'); (try dsimp only at hpre); (try dsimp only); (try k_fold)))
local macro_rules | `(tactic| walk_at "MineTillComp") => `(tactic| repeat' ((fail_if_success (with_reducible show wpAny _ _ (eval (Expr.ListComp _ _ _ _) _) _ _ _)); (first | (k_unfold; (try dsimp only)) | walk1 | (dsimp only; walk1))))
local macro_rules | `(tactic| walk_at "MineIdle") => `(tactic| skip)
-- _law_row
theorem row1_go (base : Int) (hb : 2 ≤ base) (ks : List Int) : ∀ (p : Int × List Int), (∀ d ∈ p.2, 0 ≤ d ∧ d < base) →
    ((ks.foldl (fun (p : Int × List Int) k => (p.1.fdiv 7 + 1, p.2 ++ [(p.1.fdiv 7 + 1).fmod base])) p).2.length = p.2.length + ks.length ∧
     ∀ d ∈ (ks.foldl (fun (p : Int × List Int) k => (p.1.fdiv 7 + 1, p.2 ++ [(p.1.fdiv 7 + 1).fmod base])) p).2, 0 ≤ d ∧ d < base) := by
  induction ks with
  | nil => intro p h; exact ⟨rfl, h⟩
  | cons k r ih =>
    intro p h
    have := ih (p.1.fdiv 7 + 1, p.2 ++ [(p.1.fdiv 7 + 1).fmod base]) (by
      intro d hd
      rcases List.mem_append.mp hd with hd | hd
      · exact h d hd
      · rw [List.mem_singleton.mp hd]
        exact ⟨Int.fmod_nonneg_of_pos _ (by omega), Int.fmod_lt_of_pos _ (by omega)⟩)
    rw [List.foldl_cons]
    refine ⟨?_, this.2⟩
    rw [this.1, List.length_append, List.length_cons, List.length_cons, List.length_nil]; omega
theorem row1 (base rich many : Int) (hb : 2 ≤ base) (hm : 2 ≤ many) (P : Int × List Int) (e : ((rangeKs 0 (many - 0).toNat).foldl (fun (p : Int × List Int) k => (p.1.fdiv 7 + 1, p.2 ++ [(p.1.fdiv 7 + 1).fmod base])) (rich, [])) = P) :
    (P.2.length : Int) = many ∧ ∀ d ∈ P.2, 0 ≤ d ∧ d < base := by
  subst e
  have := row1_go base hb (rangeKs 0 (many - 0).toNat) (rich, []) (fun _ h => nomatch h)
  refine ⟨?_, this.2⟩
  rw [this.1, rangeKs_length]; simp only [List.length_nil]; omega

theorem row_set {fd : List Int} {k : Nat} {v many base : Int} (h : (fd.length : Int) = many) (h2 : ∀ d ∈ fd, 0 ≤ d ∧ d < base) (hv : 0 ≤ v ∧ v < base) :
    ((fd.set k v).length : Int) = many ∧ ∀ d ∈ fd.set k v, 0 ≤ d ∧ d < base := by
  refine ⟨by rw [List.length_set]; exact h, fun d hd => ?_⟩
  rcases List.mem_or_eq_of_mem_set hd with hd | hd
  · exact h2 d hd
  · rw [hd]; exact hv
theorem menu_in {base x : Int} {j : Nat} (hb : 2 ≤ base) (hx : 0 ≤ x ∧ x < base) : 0 ≤ [base - 1, 0, x].getD j 0 ∧ [base - 1, 0, x].getD j 0 < base := by
  match j with
  | 0 => show 0 ≤ base - 1 ∧ base - 1 < base; omega
  | 1 => show (0 : Int) ≤ 0 ∧ 0 < base; omega
  | 2 => exact hx
  | n + 3 => show (0 : Int) ≤ 0 ∧ 0 < base; omega
theorem half_in {base : Int} (hb : 2 ≤ base) : 0 ≤ base.fdiv 2 ∧ base.fdiv 2 < base := by
  rw [Int.fdiv_eq_ediv_of_nonneg _ (by decide)]; omega
theorem does_row (w : World) (mean : ExcName → Option Value) (mg mb : Str → Option Value) (rich base many : Int) (ta tb tc : Tok)
    (hb : 2 ≤ base ∧ base ≤ 16) (hm : 2 ≤ many ∧ many ≤ 40) :
    Dz w mean mg mb 59 1 [.int rich ta, .int base tb, .int many tc] (fun _ => True)
      (fun g h' r => ∃ l n vs ns, r = .ref l ∧ g.get? l = none ∧ h'.get? l = some (listOf vs.toArray n) ∧ IntsAre vs ns ∧ (ns.length : Int) = many ∧ ∀ d ∈ ns, 0 ≤ d ∧ d < base) := by
  w_top off
  k_with_none
  unfold Dz
  refine does_with [(Str.ofString "rich", .int rich ta), (Str.ofString "base", .int base tb), (Str.ofString "many", .int many tc)] ?_
  walk_at "MineEnter"
  k_steps
  generalize hPe : List.foldl _ (rich, []) _ = P at *
  have hP := row1 base rich many hb.1 hm.1 P hPe
  clear hPe
  have hst0 := Int.fmod_nonneg_of_pos rich (show 0 < many + 1 by omega)
  have hst1 := Int.fmod_lt_of_pos rich (show 0 < many + 1 by omega)
  k_with "state" => (first
    | (with_reducible exact hP)
    | (with_reducible refine row_set (by assumption) (by assumption) (menu_in hb.1 (half_in hb.1)))
    | (with_reducible refine row_set (by assumption) (by assumption) (menu_in hb.1 ⟨Int.le_refl _, by omega⟩))
    | (with_reducible exact ⟨by assumption, by assumption⟩)
    | (fail "w59"))
  k_state_given ["base", "many"] (fun b mn pre fd => (fd.length : Int) = mn ∧ ∀ d ∈ fd, 0 ≤ d ∧ d < b) "found"
  all_goals walk_at "MineSteps"
  all_goals walk_at "MineEnd"
  rename News _ _ _ _ => nE'
  have nF := nE' (_, _) (List.Mem.tail _ (List.Mem.head _))
  exact ⟨_, _, _, _, rfl, nF.2.2, nF.1, by with_reducible assumption, by with_reducible assumption, by with_reducible assumption⟩

end W59
section W21
local macro_rules | `(tactic| walk_at "MineOf") => `(tactic| (
  refine' does_of' ?k6 ?k7 ?k9 ?kB ?_ ?c2 ?c3 ?c4 ?c5 ?c6
  (case k6 => k_is); (case k7 => k_is); (case k9 => intro s9 kIn9; first | exact BindsTo.of_eq rfl | exact binds_K kIn9 rfl (by k_is) rfl rfl rfl | fail "enter: no rule for these arguments"); (case c5 => decide); (case c6 => decide); (case kB => exact locs rfl); (case c2 => exact rfl); (case c3 => exact rfl); (case c4 => exact rfl)))
set_option hygiene false in
local macro_rules | `(tactic| walk_at "MineEnter") => `(tactic| (
  k_fill
  walk_at "MineOf"
  intro dp un gd cn cs L a ccd cl outer bs0 s g L' h' hdp hun hpre F' N' B' X' T' hck; (try dsimp only at hpre); (try dsimp only); (try k_fold)))
local macro_rules | `(tactic| walk_at "MineEnd") => `(tactic| ((try dsimp only); (try (k_unfold; try dsimp only)); (refine RetP.intro (Fr.keep (by k_asm)) ?_)))
set_option linter.unusedVariables false
local macro_rules | `(tactic| walk_at "MineSteps") => `(tactic| repeat' (first | (k_unfold; (try dsimp only)) | ((with_reducible show InvEndN _ _ _ _ _ _ _); kst_close) | walk1 | (dsimp only; walk1) | (k_end; wrow_close) | (leave1; walk_say "STEP leave1"; try dsimp only) | fail "no step"))
local macro_rules | `(tactic| walk_at "MineUse") => `(tactic| (
  (case k1 => k_asm); (case k2 => k_asm); (case k3 => k_asm); (case k4 => k_asm); (case k5 => k_asm); (case kK => first | exact rfl | assumption); (case kd => first | ((try dsimp only); omega) | decide +kernel); (case ku => first | ((try dsimp only); omega) | decide +kernel)))
local macro_rules | `(tactic| walk_at "MineStr") => `(tactic| first | with_reducible exact rfl | with_reducible exact txt_eq _ | with_reducible exact std_eq | with_reducible exact hex_eq | with_reducible exact zero_eq | with_reducible exact one_eq | with_reducible exact minus_eq | with_reducible assumption)
local macro_rules | `(tactic| walk_at "MineLen") => `(tactic| ((try simp only [sd_len, hx_len, List.length_map, List.length_take, List.length_drop, List.length_append, List.length_cons, List.length_nil, List.length_replicate]); omega))
local macro_rules | `(tactic| walk_at "MineItem") => `(tactic| (k_here; (with_reducible show wpAny _ _ (subscriptTail _ _ (Value.str _ _) (Value.int _ _)) _ _ _); (refine' r_item ?hx ?hn ?h0 ?h1 ?_ ?hs ?ht; (case hx => walk_at "MineStr"); (case hn => walk_at "MineLen"); (case h0 => walk_at "MineLen"); (case h1 => walk_at "MineLen"); (case hs => with_unfolding_all rfl); (case ht => intro _; with_unfolding_all rfl))))
local macro_rules | `(tactic| walk_at "MineSlice") => `(tactic| (k_here; (with_reducible rename Fr _ _ _ _ => F'); (with_reducible rename News _ _ _ _ => N'); first
  | ((with_reducible show wpAny _ _ (subscriptTail _ (Expr.Slice none (some _) none _) (Value.str _ _) _) _ _ _); (refine' r_slice_to (s := ⟨_, _, _, _, _⟩) ?hx ?hn F' N' ?h0 ?h2 ?_ ?hs ?ht; (case hx => walk_at "MineStr"); (case hn => walk_at "MineLen"); (case h0 => walk_at "MineLen"); (case h2 => walk_at "MineLen"); (case hs => with_unfolding_all rfl); (case ht => intro _; with_unfolding_all rfl)); intro h' t' k' F'' N''; (try k_sweep))
  | ((with_reducible show wpAny _ _ (subscriptTail _ (Expr.Slice (some _) (some _) none _) (Value.str _ _) _) _ _ _); (refine' r_slice (s := ⟨_, _, _, _, _⟩) ?hx ?hn F' N' ?h0 ?h1 ?h2 ?_ ?hs ?ht; (case hx => walk_at "MineStr"); (case hn => walk_at "MineLen"); (case h0 => walk_at "MineLen"); (case h1 => walk_at "MineLen"); (case h2 => walk_at "MineLen"); (case hs => with_unfolding_all rfl); (case ht => intro _; with_unfolding_all rfl)); intro h' t' k' F'' N''; (try k_sweep))))
local macro_rules | `(tactic| walk_at "subscriptTail Name Name str int") => `(tactic| walk_at "MineItem")
local macro_rules | `(tactic| walk_at "subscriptTail Name Constant str int") => `(tactic| walk_at "MineItem")
local macro_rules | `(tactic| walk_at "subscriptTail Name BinOp str int") => `(tactic| walk_at "MineItem")
local macro_rules | `(tactic| walk_at "subscriptTail Name Slice str ref") => `(tactic| walk_at "MineSlice")
local macro_rules | `(tactic| walk_at "subscriptTail Constant Slice str ref") => `(tactic| walk_at "MineSlice")
local macro_rules | `(tactic| walk_at "execs nil") => `(tactic| ((refine wpAny_execs_nil ?_); dsimp only))
local macro_rules | `(tactic| walk_at "MineTillWhile") => `(tactic| repeat' ((fail_if_success (with_reducible show wpAny _ _ (exec (Stmt.While _ _ _ _) _) _ _ _)); (first | (k_unfold; (try dsimp only)) | walk1 | (dsimp only; walk1))))
local macro_rules | `(tactic| walk_at "MineOfC") => `(tactic| (
  refine' does_ofC ?k6 ?k7 ?k9 ?kB ?kD ?_ ?c2 ?c3 ?c4 ?c6
  (case k6 => k_is); (case k7 => k_is); (case k9 => intro s9 kIn9; first | exact BindsTo.of_eq rfl | exact binds_K kIn9 rfl (by k_is) rfl rfl rfl | fail "enter: no rule for these arguments"); (case c6 => decide); (case kB => exact rfl); (case kD => decide +kernel); (case c2 => exact rfl); (case c3 => exact rfl); (case c4 => exact rfl)))
set_option hygiene false in
local macro_rules | `(tactic| walk_at "MineEnterC") => `(tactic| (
  k_fill
  walk_at "MineOfC"
  intro dp un gd cn cs L a ccd cl outer bs0 s g L' h' tk0 cells hdp hun hpre F' N' Y' B' X' T' hck; k_cells Y'; (try simp only [List.cons_append, List.nil_append] at N'); (try dsimp only at hpre); (try dsimp only); (try k_fold)))
local macro_rules | `(tactic| walk_at "MineTillComp") => `(tactic| repeat' ((fail_if_success (with_reducible show wpAny _ _ (eval (Expr.ListComp _ _ _ _) _) _ _ _)); (first | (k_unfold; (try dsimp only)) | walk1 | (dsimp only; walk1))))
-- bin_to_radix
theorem does_radix (w : World) (mean : ExcName → Option Value) (mg mb : Str → Option Value) (x xb base bd : Int) (ta tb tc te : Tok)
    (hb : 2 ≤ base ∧ base ≤ 16) (hx : 0 ≤ xb ∧ xb ≤ 64) (hd : 0 ≤ bd ∧ bd ≤ 100) (hz : x.natAbs < 2 ^ 200) :
    Dz w mean mg mb 21 1 [.int x ta, .int xb tb, .int base tc, .int bd te] (fun _ => True)
      (fun _ _ r => ∃ t, r = .int ((x * base ^ bd.toNat) / 2 ^ xb.toNat) t) := by
  w_top off
  k_with_none
  unfold Dz
  refine does_with [(Str.ofString "x", .int x ta), (Str.ofString "xbits", .int xb tb), (Str.ofString "base", .int base tc), (Str.ofString "bdigits", .int bd te)] ?_
  walk_at "MineEnter"
  have hmul : IntMulOk x (base ^ bd.toNat) := mulok (bits_lt hz) (intBits_pow_le (m := 5) (bits_lt (by omega)) bd.toNat) (by omega)
  walk_at "MineSteps"
  walk_at "MineEnd"
  exact ⟨_, congrArg (Value.int · _) (by rw [Int.fdiv_eq_ediv_of_nonneg _ (Int.le_of_lt (Int.pow_pos (by decide)))])⟩

end W21
section W71
local macro_rules | `(tactic| walk_at "MineOf") => `(tactic| (
  refine' does_of' ?k6 ?k7 ?k9 ?kB ?_ ?c2 ?c3 ?c4 ?c5 ?c6
  (case k6 => k_is); (case k7 => k_is); (case k9 => intro s9 kIn9; first | exact BindsTo.of_eq rfl | exact binds_K kIn9 rfl (by k_is) rfl rfl rfl | fail "enter: no rule for these arguments"); (case c5 => decide); (case c6 => decide); (case kB => exact locs rfl); (case c2 => exact rfl); (case c3 => exact rfl); (case c4 => exact rfl)))
set_option hygiene false in
local macro_rules | `(tactic| walk_at "MineEnter") => `(tactic| (
  k_fill
  walk_at "MineOf"
  intro dp un gd cn cs L a ccd cl outer bs0 s g L' h' hdp hun hpre F' N' B' X' T' hck; (try dsimp only at hpre); (try dsimp only); (try k_fold)))
local macro_rules | `(tactic| walk_at "MineEnd") => `(tactic| ((try dsimp only); (try (k_unfold; try dsimp only)); (refine RetP.intro (Fr.keep (by k_asm)) ?_)))
set_option linter.unusedVariables false
local macro_rules | `(tactic| walk_at "MineSteps") => `(tactic| repeat' (first | (k_unfold; (try dsimp only)) | ((with_reducible show InvEndN _ _ _ _ _ _ _); kst_close) | walk1 | (dsimp only; walk1) | (k_end; wrow_close) | (leave1; walk_say "STEP leave1"; try dsimp only) | fail "no step"))
local macro_rules | `(tactic| walk_at "MineUse") => `(tactic| (
  (case k1 => k_asm); (case k2 => k_asm); (case k3 => k_asm); (case k4 => k_asm); (case k5 => k_asm); (case kK => first | exact rfl | assumption); (case kd => first | ((try dsimp only); omega) | decide +kernel); (case ku => first | ((try dsimp only); omega) | decide +kernel)))
local macro_rules | `(tactic| walk_at "MineStr") => `(tactic| first | with_reducible exact rfl | with_reducible exact txt_eq _ | with_reducible exact std_eq | with_reducible exact hex_eq | with_reducible exact zero_eq | with_reducible exact one_eq | with_reducible exact minus_eq | with_reducible assumption)
local macro_rules | `(tactic| walk_at "MineLen") => `(tactic| ((try simp only [sd_len, hx_len, List.length_map, List.length_take, List.length_drop, List.length_append, List.length_cons, List.length_nil, List.length_replicate]); omega))
local macro_rules | `(tactic| walk_at "MineItem") => `(tactic| (k_here; (with_reducible show wpAny _ _ (subscriptTail _ _ (Value.str _ _) (Value.int _ _)) _ _ _); (refine' r_item ?hx ?hn ?h0 ?h1 ?_ ?hs ?ht; (case hx => walk_at "MineStr"); (case hn => walk_at "MineLen"); (case h0 => walk_at "MineLen"); (case h1 => walk_at "MineLen"); (case hs => with_unfolding_all rfl); (case ht => intro _; with_unfolding_all rfl))))
local macro_rules | `(tactic| walk_at "MineSlice") => `(tactic| (k_here; (with_reducible rename Fr _ _ _ _ => F'); (with_reducible rename News _ _ _ _ => N'); first
  | ((with_reducible show wpAny _ _ (subscriptTail _ (Expr.Slice none (some _) none _) (Value.str _ _) _) _ _ _); (refine' r_slice_to (s := ⟨_, _, _, _, _⟩) ?hx ?hn F' N' ?h0 ?h2 ?_ ?hs ?ht; (case hx => walk_at "MineStr"); (case hn => walk_at "MineLen"); (case h0 => walk_at "MineLen"); (case h2 => walk_at "MineLen"); (case hs => with_unfolding_all rfl); (case ht => intro _; with_unfolding_all rfl)); intro h' t' k' F'' N''; (try k_sweep))
  | ((with_reducible show wpAny _ _ (subscriptTail _ (Expr.Slice (some _) (some _) none _) (Value.str _ _) _) _ _ _); (refine' r_slice (s := ⟨_, _, _, _, _⟩) ?hx ?hn F' N' ?h0 ?h1 ?h2 ?_ ?hs ?ht; (case hx => walk_at "MineStr"); (case hn => walk_at "MineLen"); (case h0 => walk_at "MineLen"); (case h1 => walk_at "MineLen"); (case h2 => walk_at "MineLen"); (case hs => with_unfolding_all rfl); (case ht => intro _; with_unfolding_all rfl)); intro h' t' k' F'' N''; (try k_sweep))))
local macro_rules | `(tactic| walk_at "subscriptTail Name Name str int") => `(tactic| walk_at "MineItem")
local macro_rules | `(tactic| walk_at "subscriptTail Name Constant str int") => `(tactic| walk_at "MineItem")
local macro_rules | `(tactic| walk_at "subscriptTail Name BinOp str int") => `(tactic| walk_at "MineItem")
local macro_rules | `(tactic| walk_at "subscriptTail Name Slice str ref") => `(tactic| walk_at "MineSlice")
local macro_rules | `(tactic| walk_at "subscriptTail Constant Slice str ref") => `(tactic| walk_at "MineSlice")
local macro_rules | `(tactic| walk_at "execs nil") => `(tactic| ((refine wpAny_execs_nil ?_); dsimp only))
local macro_rules | `(tactic| walk_at "MineTillWhile") => `(tactic| repeat' ((fail_if_success (with_reducible show wpAny _ _ (exec (Stmt.While _ _ _ _) _) _ _ _)); (first | (k_unfold; (try dsimp only)) | walk1 | (dsimp only; walk1))))
local macro_rules | `(tactic| walk_at "MineOfC") => `(tactic| (
  refine' does_ofC ?k6 ?k7 ?k9 ?kB ?kD ?_ ?c2 ?c3 ?c4 ?c6
  (case k6 => k_is); (case k7 => k_is); (case k9 => intro s9 kIn9; first | exact BindsTo.of_eq rfl | exact binds_K kIn9 rfl (by k_is) rfl rfl rfl | fail "enter: no rule for these arguments"); (case c6 => decide); (case kB => exact rfl); (case kD => decide +kernel); (case c2 => exact rfl); (case c3 => exact rfl); (case c4 => exact rfl)))
set_option hygiene false in
local macro_rules | `(tactic| walk_at "MineEnterC") => `(tactic| (
  k_fill
  walk_at "MineOfC"
  intro dp un gd cn cs L a ccd cl outer bs0 s g L' h' tk0 cells hdp hun hpre F' N' Y' B' X' T' hck; k_cells Y'; (try simp only [List.cons_append, List.nil_append] at N'); (try dsimp only at hpre); (try dsimp only); (try k_fold)))
local macro_rules | `(tactic| walk_at "MineTillComp") => `(tactic| repeat' ((fail_if_success (with_reducible show wpAny _ _ (eval (Expr.ListComp _ _ _ _) _) _ _ _)); (first | (k_unfold; (try dsimp only)) | walk1 | (dsimp only; walk1))))
-- _law_text
set_option hygiene false in
local macro_rules | `(tactic| walk_at "subscriptTail Name Name str int") => `(tactic| (k_here; (have hdk := hd _ (by assumption)); (refine r_item (l := hx) hex_eq (by decide) (by omega) (by (show _ < (16 : Int)); omega) ?_ (by with_unfolding_all rfl) (by intro _; with_unfolding_all rfl)); clear hdk))
set_option hygiene false in
local macro_rules | `(tactic| walk_at "call builtin:str.join") => `(tactic| ((with_reducible show wpAny _ _ (call (Value.builtin "str.join") [Value.str _ _, Value.ref _]) _ _ _); (with_reducible rename CarriedAll _ _ => hc'); (made_norm hc'); refine join_madeW 1 (by assumption) hc' (by intro a ha; exact Nat.le_of_eq (mkS_len _)) (by omega) (by decide) ?_; intro _ _))
theorem join_text (ns : List Int) (hd : ∀ d ∈ ns, 0 ≤ d ∧ d < 16) : Txt.join (Str.ofString "") (List.map (fun a => mkS [hx.getD a.toNat 0]) (List.filter (fun _ => true) ns)) = txt ns := by
  have e1 : List.filter (fun _ => true) ns = ns := by simp
  rw [e1]
  have e2 : List.map (fun a : Int => mkS [hx.getD a.toNat 0]) ns = (ns.map fun a => [dig a]).map mkS := by
    rw [List.map_map]
    exact List.map_congr_left fun a ha => by show mkS [_] = mkS [_]; rw [dig_hx (hd a ha)]
  rw [e2, join_mkS, txt]
  congr 1
  induction ns with
  | nil => rfl
  | cons a r ih => rw [List.map_cons, List.flatten_cons, List.map_cons, ih (fun d h => hd d (.tail _ h)) (by simp) (by
      rw [List.map_map]
      exact List.map_congr_left fun a ha => by show mkS [_] = mkS [_]; rw [dig_hx (hd a (.tail _ ha))])]; rfl
theorem does_text (w : World) (mean : ExcName → Option Value) (mg mb : Str → Option Value) (l : Addr) (vs : List Value) (ns : List Int) 
    (hi : IntsAre vs ns) (hl : ns.length ≤ 100) (hd : ∀ d ∈ ns, 0 ≤ d ∧ d < 16) :
    Dz w mean mg mb 71 2 [.ref l] (fun h => h.IsList l vs.toArray)
      (fun _ _ r => ∃ t, r = .str (txt ns) t) := by
  w_top off
  k_with_none
  unfold Dz
  refine does_with [(Str.ofString "row", .ref l)] ?_
  walk_at "MineEnter"
  walk_at "MineSteps"
  all_goals walk_at "MineEnd"
  all_goals exact ⟨_, congrArg (Value.str · _) (join_text ns hd)⟩

end W71
section W45
local macro_rules | `(tactic| walk_at "MineOf") => `(tactic| (
  refine' does_of' ?k6 ?k7 ?k9 ?kB ?_ ?c2 ?c3 ?c4 ?c5 ?c6
  (case k6 => k_is); (case k7 => k_is); (case k9 => intro s9 kIn9; first | exact BindsTo.of_eq rfl | exact binds_K kIn9 rfl (by k_is) rfl rfl rfl | fail "enter: no rule for these arguments"); (case c5 => decide); (case c6 => decide); (case kB => exact locs rfl); (case c2 => exact rfl); (case c3 => exact rfl); (case c4 => exact rfl)))
set_option hygiene false in
local macro_rules | `(tactic| walk_at "MineEnter") => `(tactic| (
  k_fill
  walk_at "MineOf"
  intro dp un gd cn cs L a ccd cl outer bs0 s g L' h' hdp hun hpre F' N' B' X' T' hck; (try dsimp only at hpre); (try dsimp only); (try k_fold)))
local macro_rules | `(tactic| walk_at "MineEnd") => `(tactic| ((try dsimp only); (try (k_unfold; try dsimp only)); (refine RetP.intro (Fr.keep (by k_asm)) ?_)))
set_option linter.unusedVariables false
local macro_rules | `(tactic| walk_at "MineSteps") => `(tactic| repeat' (first | (k_unfold; (try dsimp only)) | ((with_reducible show InvEndN _ _ _ _ _ _ _); kst_close) | walk1 | (dsimp only; walk1) | (k_end; wrow_close) | (leave1; walk_say "STEP leave1"; try dsimp only) | fail "no step"))
local macro_rules | `(tactic| walk_at "MineUse") => `(tactic| (
  (case k1 => k_asm); (case k2 => k_asm); (case k3 => k_asm); (case k4 => k_asm); (case k5 => k_asm); (case kK => first | exact rfl | assumption); (case kd => first | ((try dsimp only); omega) | decide +kernel); (case ku => first | ((try dsimp only); omega) | decide +kernel)))
local macro_rules | `(tactic| walk_at "MineStr") => `(tactic| first | with_reducible exact rfl | with_reducible exact txt_eq _ | with_reducible exact std_eq | with_reducible exact hex_eq | with_reducible exact zero_eq | with_reducible exact one_eq | with_reducible exact minus_eq | with_reducible assumption)
local macro_rules | `(tactic| walk_at "MineLen") => `(tactic| ((try simp only [sd_len, hx_len, List.length_map, List.length_take, List.length_drop, List.length_append, List.length_cons, List.length_nil, List.length_replicate]); omega))
local macro_rules | `(tactic| walk_at "MineItem") => `(tactic| (k_here; (with_reducible show wpAny _ _ (subscriptTail _ _ (Value.str _ _) (Value.int _ _)) _ _ _); (refine' r_item ?hx ?hn ?h0 ?h1 ?_ ?hs ?ht; (case hx => walk_at "MineStr"); (case hn => walk_at "MineLen"); (case h0 => walk_at "MineLen"); (case h1 => walk_at "MineLen"); (case hs => with_unfolding_all rfl); (case ht => intro _; with_unfolding_all rfl))))
local macro_rules | `(tactic| walk_at "MineSlice") => `(tactic| (k_here; (with_reducible rename Fr _ _ _ _ => F'); (with_reducible rename News _ _ _ _ => N'); first
  | ((with_reducible show wpAny _ _ (subscriptTail _ (Expr.Slice none (some _) none _) (Value.str _ _) _) _ _ _); (refine' r_slice_to (s := ⟨_, _, _, _, _⟩) ?hx ?hn F' N' ?h0 ?h2 ?_ ?hs ?ht; (case hx => walk_at "MineStr"); (case hn => walk_at "MineLen"); (case h0 => walk_at "MineLen"); (case h2 => walk_at "MineLen"); (case hs => with_unfolding_all rfl); (case ht => intro _; with_unfolding_all rfl)); intro h' t' k' F'' N''; (try k_sweep))
  | ((with_reducible show wpAny _ _ (subscriptTail _ (Expr.Slice (some _) (some _) none _) (Value.str _ _) _) _ _ _); (refine' r_slice (s := ⟨_, _, _, _, _⟩) ?hx ?hn F' N' ?h0 ?h1 ?h2 ?_ ?hs ?ht; (case hx => walk_at "MineStr"); (case hn => walk_at "MineLen"); (case h0 => walk_at "MineLen"); (case h1 => walk_at "MineLen"); (case h2 => walk_at "MineLen"); (case hs => with_unfolding_all rfl); (case ht => intro _; with_unfolding_all rfl)); intro h' t' k' F'' N''; (try k_sweep))))
local macro_rules | `(tactic| walk_at "subscriptTail Name Name str int") => `(tactic| walk_at "MineItem")
local macro_rules | `(tactic| walk_at "subscriptTail Name Constant str int") => `(tactic| walk_at "MineItem")
local macro_rules | `(tactic| walk_at "subscriptTail Name BinOp str int") => `(tactic| walk_at "MineItem")
local macro_rules | `(tactic| walk_at "subscriptTail Name Slice str ref") => `(tactic| walk_at "MineSlice")
local macro_rules | `(tactic| walk_at "subscriptTail Constant Slice str ref") => `(tactic| walk_at "MineSlice")
local macro_rules | `(tactic| walk_at "execs nil") => `(tactic| ((refine wpAny_execs_nil ?_); dsimp only))
local macro_rules | `(tactic| walk_at "MineTillWhile") => `(tactic| repeat' ((fail_if_success (with_reducible show wpAny _ _ (exec (Stmt.While _ _ _ _) _) _ _ _)); (first | (k_unfold; (try dsimp only)) | walk1 | (dsimp only; walk1))))
local macro_rules | `(tactic| walk_at "MineOfC") => `(tactic| (
  refine' does_ofC ?k6 ?k7 ?k9 ?kB ?kD ?_ ?c2 ?c3 ?c4 ?c6
  (case k6 => k_is); (case k7 => k_is); (case k9 => intro s9 kIn9; first | exact BindsTo.of_eq rfl | exact binds_K kIn9 rfl (by k_is) rfl rfl rfl | fail "enter: no rule for these arguments"); (case c6 => decide); (case kB => exact rfl); (case kD => decide +kernel); (case c2 => exact rfl); (case c3 => exact rfl); (case c4 => exact rfl)))
set_option hygiene false in
local macro_rules | `(tactic| walk_at "MineEnterC") => `(tactic| (
  k_fill
  walk_at "MineOfC"
  intro dp un gd cn cs L a ccd cl outer bs0 s g L' h' tk0 cells hdp hun hpre F' N' Y' B' X' T' hck; k_cells Y'; (try simp only [List.cons_append, List.nil_append] at N'); (try dsimp only at hpre); (try dsimp only); (try k_fold)))
local macro_rules | `(tactic| walk_at "MineTillComp") => `(tactic| repeat' ((fail_if_success (with_reducible show wpAny _ _ (eval (Expr.ListComp _ _ _ _) _) _ _ _)); (first | (k_unfold; (try dsimp only)) | walk1 | (dsimp only; walk1))))
-- round_digits
set_option hygiene false in
local macro_rules | `(tactic| walk_at "call type:int") => `(tactic| (k_here; (with_reducible show wpAny _ _ (call (Value.type "int") [Value.str _ _, Value.int _ _]) _ _ _); (refine' r_int ?hx ?hc ?hb ?hd ?_; (case hx => walk_at "MineStr"); (case hc => first | exact take_dig (by omega) (by omega) | exact map_dig (by omega)); (case hb => exact hbh.out); (case hd => exact hIn _ (getD_mem (by omega)))); intro hdI; (try (have hdH := (half_eq hbh.out hIn hk).mp (by with_reducible assumption)))))
set_option hygiene false in
local macro_rules | `(tactic| walk_at "binaryOp Add str str") => `(tactic| ((with_reducible show wpAny _ _ (binaryOp Operator.Add (Value.str _ _) (Value.str _ _)) _ _ _); (refine' r_add ?hx ?hy ?hn ?hn' ?_; (case hx => walk_at "MineStr"); (case hy => walk_at "MineStr"); (case hn => walk_at "MineLen"); (case hn' => walk_at "MineLen")); intro t' k'))
set_option hygiene false in
local macro_rules | `(tactic| walk_at "binaryOp Mult str int") => `(tactic| ((with_reducible show wpAny _ _ (binaryOp Operator.Mult (Value.str _ _) (Value.int _ _)) _ _ _); (refine' r_mul ?hx ?h0 ?h1 ?_; (case hx => walk_at "MineStr"); (case h0 => omega); (case h1 => omega)); intro t' k'))
local macro_rules | `(tactic| walk_at "compareOp In str str") => `(tactic| ((with_reducible show wpAny _ _ (compareOp CmpOp.In (Value.str _ _) (Value.str _ _)) _ _ _); (refine' r_in ?hy ?_; (case hy => walk_at "MineStr"))))
local macro_rules | `(tactic| walk_at "subscriptTail Name Slice str ref") => `(tactic| (k_here; (with_reducible show wpAny _ _ (subscriptTail _ (Expr.Slice (some _) (some _) (some _) _) (Value.str _ _) _) _ _ _); (with_reducible rename Fr _ _ _ _ => F'); (with_reducible rename News _ _ _ _ => N'); (refine' r_slice_by (s := ⟨_, _, _, _, _⟩) ?hx ?hn F' N' ?hk ?_ ?hs ?ht; (case hx => walk_at "MineStr"); (case hn => walk_at "MineLen"); (case hk => with_unfolding_all rfl); (case hs => with_unfolding_all rfl); (case ht => intro _; with_unfolding_all rfl)); intro h' t' k' F'' N''; (try k_sweep)))
theorem does_round (w : World) (mean : ExcName → Option Value) (mg mb : Str → Option Value) (ns : List Int) (kept base : Int) (rnd sign : Str) (minus : Bool) (ta tb tc te tf : Tok) (dir : Nat)
    (hb : base = 2 ∨ base = 8 ∨ base = 10 ∨ base = 16) (hl : ns.length ≤ 100) (hk : 1 ≤ kept ∧ kept < ns.length) (hd : ∀ d ∈ ns, 0 ≤ d ∧ d < base)
    (hs : (minus = true ∧ sign = Str.ofString "-") ∨ (minus = false ∧ sign = Str.ofString "")) (hr : Dir rnd minus dir) :
    Dz w mean mg mb 45 2 [.str sign ta, .str (txt ns) tb, .int kept tc, .int base te, .str rnd tf] (fun _ => True)
      (fun g h' r => ∃ T res e t1 t2, r = .ref T ∧ g.get? T = none ∧ h'.get? T = some { cls := .type "tuple", data := .seq #[.str (txt res) t1, .int e t2] } ∧
        RoundOk base kept.toNat (due dir (base ^ ((ns.length : Int) - kept).toNat) (worth base ns / base ^ ((ns.length : Int) - kept).toNat) (worth base ns % base ^ ((ns.length : Int) - kept).toNat)) res e) := by
  w_top off
  k_with_none
  unfold Dz
  refine does_with [(Str.ofString "sign", .str sign ta), (Str.ofString "digits", .str (txt ns) tb), (Str.ofString "dps", .int kept tc), (Str.ofString "base", .int base te), (Str.ofString "rnd", .str rnd tf), (Str.ofString "fixed", .bool false)] ?_
  have hb1 : 2 ≤ base ∧ base ≤ 16 := by omega
  have hlen := txt_len ns
  have hbh := KIN.Hid.mk hb
  clear hb
  walk_at "MineEnter"
  refine cut_at 9 (MidR g L' s ns kept base (UpOf dir base kept ns)) ?_ ?_
  · dsimp only [List.take]
    have hIn : InB base ns := hd
    have hf1 : base.fdiv 2 + base.fmod 2 = base / 2 := by rcases hbh.out with h | h | h | h <;> subst h <;> decide
    have he2 : base % 2 = 0 := by have := hbh.out; omega
    k_with "state" => (first | (with_reducible exact stA0) | (with_reducible exact stA hIn hb1 hk hlen (by assumption) (by assumption) (by assumption) (by assumption) (by assumption)) | (fail "no way"))
    k_with "pyIter ref" => k_state (fun pre td => td = false ∧ ∀ j ∈ pre, ns.getD j.toNat 0 = 0) "tie_up"
    k_with "pyIter ref" => k_state (fun pre td => td = true ∧ ∀ j ∈ pre, ns.getD j.toNat 0 = 0) "tie_down"
    rcases hr with ⟨rfl, rfl⟩ | ⟨rfl, rfl, rfl⟩ | ⟨rfl, rfl, rfl⟩ | ⟨rfl, rfl, rfl⟩ | ⟨rfl, rfl, rfl⟩ | ⟨rfl, rfl⟩ | ⟨rfl, rfl⟩
    · walk_at "MineSteps"
      all_goals (try dsimp only)
      all_goals (try (k_unfold; try dsimp only))
      all_goals rename Fr _ _ _ _ => Fz
      all_goals have hlo : 1 ≤ base.fdiv 2 + base.fmod 2 ∧ base.fdiv 2 + base.fmod 2 ≤ base := by omega
      · have hz := z_ne hIn hb1 hk hlen (by assumption) (by assumption) (by assumption)
        exact MidR.same hIn hk hl hlo (by rw [hf1]; exact midN4 hb1.1 he2 hIn hk ((half_eq hbh.out hIn hk).mp (by assumption)) hz.1 hz.2) Fz (by with_unfolding_all rfl) (by with_unfolding_all rfl) (by with_unfolding_all rfl) (by with_unfolding_all rfl) (by with_unfolding_all rfl) (by with_unfolding_all rfl)
      · have hz := z_ne hIn hb1 hk hlen (by assumption) (by assumption) (by assumption)
        exact MidR.same hIn hk hl hlo (by rw [hf1]; exact midN4 hb1.1 he2 hIn hk ((half_eq hbh.out hIn hk).mp (by assumption)) hz.1 hz.2) Fz (by with_unfolding_all rfl) (by with_unfolding_all rfl) (by with_unfolding_all rfl) (by with_unfolding_all rfl) (by with_unfolding_all rfl) (by with_unfolding_all rfl)
      · exact MidR.same hIn hk hl hlo (by rw [hf1]; exact midN2 hb1.1 he2 hIn hk ((half_eq hbh.out hIn hk).mp (by assumption)) (rest_zero hb1.1 hk hlen (by assumption)) ((odd_at hbh.out hIn hk).mp (by assumption))) Fz (by with_unfolding_all rfl) (by with_unfolding_all rfl) (by with_unfolding_all rfl) (by with_unfolding_all rfl) (by with_unfolding_all rfl) (by with_unfolding_all rfl)
      · exact MidR.turn (x := ns.getD kept.toNat 0 - 1) (by omega) hIn hk hl hlo (by rw [hf1]; exact ⟨fun q => by omega, fun q => absurd q (midN3 hb1.1 he2 hIn hk hdH (rest_zero hb1.1 hk hlen (by assumption)) (fun q => by rename ¬ _ ∈ _ => hno; exact hno ((odd_at hbh.out hIn hk).mpr q)))⟩) Fz (by with_unfolding_all rfl) (by with_unfolding_all rfl) (by with_unfolding_all rfl) (by with_unfolding_all rfl) (by with_unfolding_all rfl) (by with_unfolding_all rfl)
      · exact MidR.same hIn hk hl hlo (by rw [hf1]; exact midN1 hb1.1 he2 hIn hk (not_half hbh.out hIn hk (by assumption))) Fz (by with_unfolding_all rfl) (by with_unfolding_all rfl) (by with_unfolding_all rfl) (by with_unfolding_all rfl) (by with_unfolding_all rfl) (by with_unfolding_all rfl)
    · rcases hs with ⟨h, rfl⟩ | ⟨h, rfl⟩
      · cases h
      · walk_at "MineSteps"
        walk_at "MineEnd"
        rename News _ _ _ _ => nE'
        have nF := nE' _ (List.Mem.head _)
        exact finC1 (due_down hb1.1 hIn hk) hIn hb1 hk.1 hk.2 nF.2.2 nF.1
    · rcases hs with ⟨h, rfl⟩ | ⟨h, rfl⟩
      · walk_at "MineSteps"
        all_goals (try dsimp only)
        all_goals (try (k_unfold; try dsimp only))
        all_goals rename Fr _ _ _ _ => Fz
        · exact MidR.turn (x := 1) (lo := 1) (by omega) hIn hk hl (by omega) (midU1 hb1 hIn hk (z_ne hIn hb1 hk hlen (by assumption) (by assumption) (by assumption))) Fz (by with_unfolding_all rfl) (by with_unfolding_all rfl) (by with_unfolding_all rfl) (by with_unfolding_all rfl) (by with_unfolding_all rfl) (by with_unfolding_all rfl)
        · exact MidR.same (lo := 1) hIn hk hl (by omega) (midU2 hb1 hIn hk (by assumption) (rest_zero hb1.1 hk hlen (by assumption))) Fz (by with_unfolding_all rfl) (by with_unfolding_all rfl) (by with_unfolding_all rfl) (by with_unfolding_all rfl) (by with_unfolding_all rfl) (by with_unfolding_all rfl)
        · exact MidR.same (lo := 1) hIn hk hl (by omega) (midU3 hb1 hIn hk (by assumption)) Fz (by with_unfolding_all rfl) (by with_unfolding_all rfl) (by with_unfolding_all rfl) (by with_unfolding_all rfl) (by with_unfolding_all rfl) (by with_unfolding_all rfl)
      · cases h
    · rcases hs with ⟨h, rfl⟩ | ⟨h, rfl⟩
      · cases h
      · walk_at "MineSteps"
        all_goals (try dsimp only)
        all_goals (try (k_unfold; try dsimp only))
        all_goals rename Fr _ _ _ _ => Fz
        · exact MidR.turn (x := 1) (lo := 1) (by omega) hIn hk hl (by omega) (midU1 hb1 hIn hk (z_ne hIn hb1 hk hlen (by assumption) (by assumption) (by assumption))) Fz (by with_unfolding_all rfl) (by with_unfolding_all rfl) (by with_unfolding_all rfl) (by with_unfolding_all rfl) (by with_unfolding_all rfl) (by with_unfolding_all rfl)
        · exact MidR.same (lo := 1) hIn hk hl (by omega) (midU2 hb1 hIn hk (by assumption) (rest_zero hb1.1 hk hlen (by assumption))) Fz (by with_unfolding_all rfl) (by with_unfolding_all rfl) (by with_unfolding_all rfl) (by with_unfolding_all rfl) (by with_unfolding_all rfl) (by with_unfolding_all rfl)
        · exact MidR.same (lo := 1) hIn hk hl (by omega) (midU3 hb1 hIn hk (by assumption)) Fz (by with_unfolding_all rfl) (by with_unfolding_all rfl) (by with_unfolding_all rfl) (by with_unfolding_all rfl) (by with_unfolding_all rfl) (by with_unfolding_all rfl)
    · rcases hs with ⟨h, rfl⟩ | ⟨h, rfl⟩
      · walk_at "MineSteps"
        walk_at "MineEnd"
        rename News _ _ _ _ => nE'
        have nF := nE' _ (List.Mem.head _)
        exact finC1 (due_down hb1.1 hIn hk) hIn hb1 hk.1 hk.2 nF.2.2 nF.1
      · cases h
    · walk_at "MineSteps"
      walk_at "MineEnd"
      rename News _ _ _ _ => nE'
      have nF := nE' _ (List.Mem.head _)
      exact finC1 (due_down hb1.1 hIn hk) hIn hb1 hk.1 hk.2 nF.2.2 nF.1
    · walk_at "MineSteps"
      all_goals (try dsimp only)
      all_goals (try (k_unfold; try dsimp only))
      all_goals rename Fr _ _ _ _ => Fz
      · exact MidR.turn (x := 1) (lo := 1) (by omega) hIn hk hl (by omega) (midU1 hb1 hIn hk (z_ne hIn hb1 hk hlen (by assumption) (by assumption) (by assumption))) Fz (by with_unfolding_all rfl) (by with_unfolding_all rfl) (by with_unfolding_all rfl) (by with_unfolding_all rfl) (by with_unfolding_all rfl) (by with_unfolding_all rfl)
      · exact MidR.same (lo := 1) hIn hk hl (by omega) (midU2 hb1 hIn hk (by assumption) (rest_zero hb1.1 hk hlen (by assumption))) Fz (by with_unfolding_all rfl) (by with_unfolding_all rfl) (by with_unfolding_all rfl) (by with_unfolding_all rfl) (by with_unfolding_all rfl) (by with_unfolding_all rfl)
      · exact MidR.same (lo := 1) hIn hk hl (by omega) (midU3 hb1 hIn hk (by assumption)) Fz (by with_unfolding_all rfl) (by with_unfolding_all rfl) (by with_unfolding_all rfl) (by with_unfolding_all rfl) (by with_unfolding_all rfl) (by with_unfolding_all rfl)
  · rintro s' ⟨hq, tq, ds, lo, u, td, tc, te, tr, tx, rfl, F, h1, h2, h3, hIn, h5, h6⟩
    have N : News g L' hq [] := News.nil
    have hfa := hIn _ (getD_mem (show kept.toNat < ds.length by omega))
    have hdue := KIN.Hid.mk (dueC hb1 hd hk rfl h1 h2 hIn h5 h6)
    clear F' N' hs hr hlen hl hd hdp hun
    have hk1 := hk.1
    clear hk
    have h6h := KIN.Hid.mk h6
    clear h6
    dsimp only [List.drop]
    k_with "state" => (first
      | (with_reducible exact stC0 hk1)
      | (with_reducible exact stC hIn hb1 (by assumption) (by assumption) h2 (by assumption) (by assumption))
      | (fail "no way"))
    k_with "exec While BoolOp cons nil" => k_while (fun _ i => -1 ≤ i ∧ i < kept ∧ ∀ j : Nat, i < j → j < kept.toNat → ds.getD j 0 = base - 1) (fun _ i => (i + 1).toNat) "i"
    walk_at "MineSteps"
    all_goals walk_at "MineEnd"
    all_goals (rename News _ _ _ _ => nE'; have nF := nE' _ (List.Mem.head _))
    · exact finC2 (hdue.out.1 (by assumption)) hIn hb1 (by assumption) (by assumption) h2 (by assumption) (by assumption) nF.2.2 nF.1
    · exact finC3 (hdue.out.1 (by assumption)) hb1 hk1 (by assumption) h2 (by assumption) nF.2.2 nF.1
    · exact finC1 (hdue.out.2 (by assumption)) hIn hb1 hk1 h2 nF.2.2 nF.1

end W45
section W29
local macro_rules | `(tactic| walk_at "MineOf") => `(tactic| (
  refine' does_of' ?k6 ?k7 ?k9 ?kB ?_ ?c2 ?c3 ?c4 ?c5 ?c6
  (case k6 => k_is); (case k7 => k_is); (case k9 => intro s9 kIn9; first | exact BindsTo.of_eq rfl | exact binds_K kIn9 rfl (by k_is) rfl rfl rfl | fail "enter: no rule for these arguments"); (case c5 => decide); (case c6 => decide); (case kB => exact locs rfl); (case c2 => exact rfl); (case c3 => exact rfl); (case c4 => exact rfl)))
set_option hygiene false in
local macro_rules | `(tactic| walk_at "MineEnter") => `(tactic| (
  k_fill
  walk_at "MineOf"
  intro dp un gd cn cs L a ccd cl outer bs0 s g L' h' hdp hun hpre F' N' B' X' T' hck; (try dsimp only at hpre); (try dsimp only); (try k_fold)))
local macro_rules | `(tactic| walk_at "MineEnd") => `(tactic| ((try dsimp only); (try (k_unfold; try dsimp only)); (refine RetP.intro (Fr.keep (by k_asm)) ?_)))
set_option linter.unusedVariables false
local macro_rules | `(tactic| walk_at "MineSteps") => `(tactic| repeat' (first | (k_unfold; (try dsimp only)) | ((with_reducible show InvEndN _ _ _ _ _ _ _); kst_close) | walk1 | (dsimp only; walk1) | (k_end; wrow_close) | (leave1; walk_say "STEP leave1"; try dsimp only) | fail "no step"))
local macro_rules | `(tactic| walk_at "MineUse") => `(tactic| (
  (case k1 => k_asm); (case k2 => k_asm); (case k3 => k_asm); (case k4 => k_asm); (case k5 => k_asm); (case kK => first | exact rfl | assumption); (case kd => first | ((try dsimp only); omega) | decide +kernel); (case ku => first | ((try dsimp only); omega) | decide +kernel)))
local macro_rules | `(tactic| walk_at "MineStr") => `(tactic| first | with_reducible exact rfl | with_reducible exact txt_eq _ | with_reducible exact std_eq | with_reducible exact hex_eq | with_reducible exact zero_eq | with_reducible exact one_eq | with_reducible exact minus_eq | with_reducible assumption)
local macro_rules | `(tactic| walk_at "MineLen") => `(tactic| ((try simp only [sd_len, hx_len, List.length_map, List.length_take, List.length_drop, List.length_append, List.length_cons, List.length_nil, List.length_replicate]); omega))
local macro_rules | `(tactic| walk_at "MineItem") => `(tactic| (k_here; (with_reducible show wpAny _ _ (subscriptTail _ _ (Value.str _ _) (Value.int _ _)) _ _ _); (refine' r_item ?hx ?hn ?h0 ?h1 ?_ ?hs ?ht; (case hx => walk_at "MineStr"); (case hn => walk_at "MineLen"); (case h0 => walk_at "MineLen"); (case h1 => walk_at "MineLen"); (case hs => with_unfolding_all rfl); (case ht => intro _; with_unfolding_all rfl))))
local macro_rules | `(tactic| walk_at "MineSlice") => `(tactic| (k_here; (with_reducible rename Fr _ _ _ _ => F'); (with_reducible rename News _ _ _ _ => N'); first
  | ((with_reducible show wpAny _ _ (subscriptTail _ (Expr.Slice none (some _) none _) (Value.str _ _) _) _ _ _); (refine' r_slice_to (s := ⟨_, _, _, _, _⟩) ?hx ?hn F' N' ?h0 ?h2 ?_ ?hs ?ht; (case hx => walk_at "MineStr"); (case hn => walk_at "MineLen"); (case h0 => walk_at "MineLen"); (case h2 => walk_at "MineLen"); (case hs => with_unfolding_all rfl); (case ht => intro _; with_unfolding_all rfl)); intro h' t' k' F'' N''; (try k_sweep))
  | ((with_reducible show wpAny _ _ (subscriptTail _ (Expr.Slice (some _) (some _) none _) (Value.str _ _) _) _ _ _); (refine' r_slice (s := ⟨_, _, _, _, _⟩) ?hx ?hn F' N' ?h0 ?h1 ?h2 ?_ ?hs ?ht; (case hx => walk_at "MineStr"); (case hn => walk_at "MineLen"); (case h0 => walk_at "MineLen"); (case h1 => walk_at "MineLen"); (case h2 => walk_at "MineLen"); (case hs => with_unfolding_all rfl); (case ht => intro _; with_unfolding_all rfl)); intro h' t' k' F'' N''; (try k_sweep))))
local macro_rules | `(tactic| walk_at "subscriptTail Name Name str int") => `(tactic| walk_at "MineItem")
local macro_rules | `(tactic| walk_at "subscriptTail Name Constant str int") => `(tactic| walk_at "MineItem")
local macro_rules | `(tactic| walk_at "subscriptTail Name BinOp str int") => `(tactic| walk_at "MineItem")
local macro_rules | `(tactic| walk_at "subscriptTail Name Slice str ref") => `(tactic| walk_at "MineSlice")
local macro_rules | `(tactic| walk_at "subscriptTail Constant Slice str ref") => `(tactic| walk_at "MineSlice")
local macro_rules | `(tactic| walk_at "execs nil") => `(tactic| ((refine wpAny_execs_nil ?_); dsimp only))
local macro_rules | `(tactic| walk_at "MineTillWhile") => `(tactic| repeat' ((fail_if_success (with_reducible show wpAny _ _ (exec (Stmt.While _ _ _ _) _) _ _ _)); (first | (k_unfold; (try dsimp only)) | walk1 | (dsimp only; walk1))))
local macro_rules | `(tactic| walk_at "MineOfC") => `(tactic| (
  refine' does_ofC ?k6 ?k7 ?k9 ?kB ?kD ?_ ?c2 ?c3 ?c4 ?c6
  (case k6 => k_is); (case k7 => k_is); (case k9 => intro s9 kIn9; first | exact BindsTo.of_eq rfl | exact binds_K kIn9 rfl (by k_is) rfl rfl rfl | fail "enter: no rule for these arguments"); (case c6 => decide); (case kB => exact rfl); (case kD => decide +kernel); (case c2 => exact rfl); (case c3 => exact rfl); (case c4 => exact rfl)))
set_option hygiene false in
local macro_rules | `(tactic| walk_at "MineEnterC") => `(tactic| (
  k_fill
  walk_at "MineOfC"
  intro dp un gd cn cs L a ccd cl outer bs0 s g L' h' tk0 cells hdp hun hpre F' N' Y' B' X' T' hck; k_cells Y'; (try simp only [List.cons_append, List.nil_append] at N'); (try dsimp only at hpre); (try dsimp only); (try k_fold)))
local macro_rules | `(tactic| walk_at "MineTillComp") => `(tactic| repeat' ((fail_if_success (with_reducible show wpAny _ _ (eval (Expr.ListComp _ _ _ _) _) _ _ _)); (first | (k_unfold; (try dsimp only)) | walk1 | (dsimp only; walk1))))
-- small_numeral
local macro_rules | `(tactic| walk_at "call builtin:divmod") => `(tactic| ((with_reducible show wpAny _ _ (call (Value.builtin _) [Value.int _ _, Value.int _ _]) _ _ _); refine r_divmod (by k_asm) (by k_asm) (by assumption) ?_; intro D' h' t1' t2' k' F' N' l1 hm0 hm1; (try k_lt l1); (try k_sweep)))
local macro_rules | `(tactic| kst_facts) => `(tactic| ((try dsimp only); first | exact PyProof.Rows.StrsAre.nil | with_reducible assumption | exact PyProof.Rows.StrsAre.append' (by assumption) (.cons _ _ .nil)))
local macro_rules | `(tactic| walk_at "subscriptTail Name Slice ref ref") => `(tactic| (k_here; (with_reducible show wpAny _ _ (subscriptTail _ (PySem.Expr.Slice none none (some _) _) (Value.ref _) (Value.ref _)) _ _ _); k_dflt (refine' r_rev ?F ?N ?l ?i ?z ?k ?_ ?s ?t; (case F => k_asm); (case N => k_asm); (case l => kmk_list); (case i => with_reducible assumption); (case z => (have hdg9 := (by assumption : Digs _ _ _ _); exact Nat.le_trans hdg9.2.2.2 (by decide))); (case k => rfl); (case s => with_unfolding_all rfl); (case t => kmk_pure)); intro D' ws' h' F' N' l1 hI'; (try k_lt l1); (try k_sweep)))
local macro_rules | `(tactic| walk_at "call builtin:str.join") => `(tactic| ((with_reducible show wpAny _ _ (call (Value.builtin "str.join") [Value.str _ _, Value.ref _]) _ _ _); (refine join_list (by is_list) (by with_reducible assumption) (digs_ok (by with_reducible assumption)) ?_); intro _ _))
local macro_rules | `(tactic| walk_at "call builtin:list.append") => `(tactic| (k_here; (with_reducible show wpAny _ _ (call (Value.builtin _) [Value.ref _, _]) _ _ _); k_dflt (refine' append_K ?k1 ?k2 ?k3 ?_ ?z; (case k1 => k_asm); (case k2 => k_asm); (case k3 => k_upd); (case z => (have hdg9 := (by with_reducible assumption : Digs _ _ _ _).2.2.2; simp only [List.size_toArray, sizeLine_eq]; omega)); k_whole); intro h' F' N'; (try k_sweep)))
set_option hygiene false in
local macro_rules | `(tactic| walk_at "call type:str") => `(tactic| (refine P.str_of_int (log_ok hzh.out) ?_))
theorem does_small (w : World) (mean : ExcName → Option Value) (mg mb : Str → Option Value) (n base : Int) (tn tb td : Tok) (dgs : Str) (hdg : dgs = mkS sd)
    (hb : base = 2 ∨ base = 8 ∨ base = 10 ∨ base = 16) (hn : 0 ≤ n) (hz : n.natAbs < 2 ^ 200) :
    Dz w mean mg mb 29 1 [.int n tn, .int base tb, .str dgs td] (fun _ => True) (fun _ _ r => ∃ t, r = .str (snum base n) t) := by
  w_top off
  k_with_none
  unfold Dz
  refine does_with [(Str.ofString "n", .int n tn), (Str.ofString "base", .int base tb), (Str.ofString "digits", .str dgs td)] ?_
  have hb1 : 2 ≤ base ∧ base ≤ 16 := by omega
  have hzh := KIN.Hid.mk hz
  have hbh := KIN.Hid.mk hb
  clear hz hb
  walk_at "MineEnter"
  k_with "state" => (first | (with_reducible exact digs_start hn) | (with_reducible exact digs_step hb1.1 hzh.out (by assumption) (by assumption)) | (fail "no way"))
  k_with "measure" => exact fdiv_less hb1.1 (by with_reducible assumption : Digs _ _ _ _).1 (by with_reducible assumption)
  k_with "exec While Name cons nil" => k_while (fun _ m ds => Digs base n m ds) (fun _ m _ => m.toNat) "n" "digs$"
  walk_at "MineSteps"
  all_goals walk_at "MineEnd"
  all_goals first
    | exact ⟨_, congrArg (Value.str · _) (snum_ten (by with_reducible assumption))⟩
    | exact ⟨_, congrArg (Value.str · _) (digs_text (by assumption) (by with_reducible assumption) (by with_reducible assumption))⟩
-- the same with the written figures
theorem does_small2 (w : World) (mean : ExcName → Option Value) (mg mb : Str → Option Value) (n base : Int) (tn tb : Tok)
    (hb : base = 2 ∨ base = 8 ∨ base = 10 ∨ base = 16) (hn : 0 ≤ n) (hz : n.natAbs < 2 ^ 200) :
    Dz w mean mg mb 29 1 [.int n tn, .int base tb] (fun _ => True) (fun _ _ r => ∃ t, r = .str (snum base n) t) := by
  w_top off
  k_with_none
  unfold Dz
  refine does_with [(Str.ofString "n", .int n tn), (Str.ofString "base", .int base tb), (Str.ofString "digits", .str (Str.ofString "0123456789abcdefghijklmnopqrstuvwxyz") 199)] ?_
  have hb1 : 2 ≤ base ∧ base ≤ 16 := by omega
  have hzh := KIN.Hid.mk hz
  have hbh := KIN.Hid.mk hb
  clear hz hb
  walk_at "MineEnter"
  k_with "state" => (first | (with_reducible exact digs_start hn) | (with_reducible exact digs_step hb1.1 hzh.out (by assumption) (by assumption)) | (fail "no way"))
  k_with "measure" => exact fdiv_less hb1.1 (by with_reducible assumption : Digs _ _ _ _).1 (by with_reducible assumption)
  k_with "exec While Name cons nil" => k_while (fun _ m ds => Digs base n m ds) (fun _ m _ => m.toNat) "n" "digs$"
  walk_at "MineSteps"
  all_goals walk_at "MineEnd"
  all_goals first
    | exact ⟨_, congrArg (Value.str · _) (snum_ten (by with_reducible assumption))⟩
    | exact ⟨_, congrArg (Value.str · _) (digs_text (by assumption) (by with_reducible assumption) (by with_reducible assumption))⟩

end W29
section W37
local macro_rules | `(tactic| walk_at "MineOf") => `(tactic| (
  refine' does_of' ?k6 ?k7 ?k9 ?kB ?_ ?c2 ?c3 ?c4 ?c5 ?c6
  (case k6 => k_is); (case k7 => k_is); (case k9 => intro s9 kIn9; first | exact BindsTo.of_eq rfl | exact binds_K kIn9 rfl (by k_is) rfl rfl rfl | fail "enter: no rule for these arguments"); (case c5 => decide); (case c6 => decide); (case kB => exact locs rfl); (case c2 => exact rfl); (case c3 => exact rfl); (case c4 => exact rfl)))
set_option hygiene false in
local macro_rules | `(tactic| walk_at "MineEnter") => `(tactic| (
  k_fill
  walk_at "MineOf"
  intro dp un gd cn cs L a ccd cl outer bs0 s g L' h' hdp hun hpre F' N' B' X' T' hck; (try dsimp only at hpre); (try dsimp only); (try k_fold)))
local macro_rules | `(tactic| walk_at "MineEnd") => `(tactic| ((try dsimp only); (try (k_unfold; try dsimp only)); (refine RetP.intro (Fr.keep (by k_asm)) ?_)))
set_option linter.unusedVariables false
local macro_rules | `(tactic| walk_at "MineSteps") => `(tactic| repeat' (first | (k_unfold; (try dsimp only)) | ((with_reducible show InvEndN _ _ _ _ _ _ _); kst_close) | walk1 | (dsimp only; walk1) | (k_end; wrow_close) | (leave1; walk_say "STEP leave1"; try dsimp only) | fail "no step"))
local macro_rules | `(tactic| walk_at "MineUse") => `(tactic| (
  (case k1 => k_asm); (case k2 => k_asm); (case k3 => k_asm); (case k4 => k_asm); (case k5 => k_asm); (case kK => first | exact rfl | assumption); (case kd => first | ((try dsimp only); omega) | decide +kernel); (case ku => first | ((try dsimp only); omega) | decide +kernel)))
local macro_rules | `(tactic| walk_at "MineStr") => `(tactic| first | with_reducible exact rfl | with_reducible exact txt_eq _ | with_reducible exact std_eq | with_reducible exact hex_eq | with_reducible exact zero_eq | with_reducible exact one_eq | with_reducible exact minus_eq | with_reducible assumption)
local macro_rules | `(tactic| walk_at "MineLen") => `(tactic| ((try simp only [sd_len, hx_len, List.length_map, List.length_take, List.length_drop, List.length_append, List.length_cons, List.length_nil, List.length_replicate]); omega))
local macro_rules | `(tactic| walk_at "MineItem") => `(tactic| (k_here; (with_reducible show wpAny _ _ (subscriptTail _ _ (Value.str _ _) (Value.int _ _)) _ _ _); (refine' r_item ?hx ?hn ?h0 ?h1 ?_ ?hs ?ht; (case hx => walk_at "MineStr"); (case hn => walk_at "MineLen"); (case h0 => walk_at "MineLen"); (case h1 => walk_at "MineLen"); (case hs => with_unfolding_all rfl); (case ht => intro _; with_unfolding_all rfl))))
local macro_rules | `(tactic| walk_at "MineSlice") => `(tactic| (k_here; (with_reducible rename Fr _ _ _ _ => F'); (with_reducible rename News _ _ _ _ => N'); first
  | ((with_reducible show wpAny _ _ (subscriptTail _ (Expr.Slice none (some _) none _) (Value.str _ _) _) _ _ _); (refine' r_slice_to (s := ⟨_, _, _, _, _⟩) ?hx ?hn F' N' ?h0 ?h2 ?_ ?hs ?ht; (case hx => walk_at "MineStr"); (case hn => walk_at "MineLen"); (case h0 => walk_at "MineLen"); (case h2 => walk_at "MineLen"); (case hs => with_unfolding_all rfl); (case ht => intro _; with_unfolding_all rfl)); intro h' t' k' F'' N''; (try k_sweep))
  | ((with_reducible show wpAny _ _ (subscriptTail _ (Expr.Slice (some _) (some _) none _) (Value.str _ _) _) _ _ _); (refine' r_slice (s := ⟨_, _, _, _, _⟩) ?hx ?hn F' N' ?h0 ?h1 ?h2 ?_ ?hs ?ht; (case hx => walk_at "MineStr"); (case hn => walk_at "MineLen"); (case h0 => walk_at "MineLen"); (case h1 => walk_at "MineLen"); (case h2 => walk_at "MineLen"); (case hs => with_unfolding_all rfl); (case ht => intro _; with_unfolding_all rfl)); intro h' t' k' F'' N''; (try k_sweep))))
local macro_rules | `(tactic| walk_at "subscriptTail Name Name str int") => `(tactic| walk_at "MineItem")
local macro_rules | `(tactic| walk_at "subscriptTail Name Constant str int") => `(tactic| walk_at "MineItem")
local macro_rules | `(tactic| walk_at "subscriptTail Name BinOp str int") => `(tactic| walk_at "MineItem")
local macro_rules | `(tactic| walk_at "subscriptTail Name Slice str ref") => `(tactic| walk_at "MineSlice")
local macro_rules | `(tactic| walk_at "subscriptTail Constant Slice str ref") => `(tactic| walk_at "MineSlice")
local macro_rules | `(tactic| walk_at "execs nil") => `(tactic| ((refine wpAny_execs_nil ?_); dsimp only))
local macro_rules | `(tactic| walk_at "MineTillWhile") => `(tactic| repeat' ((fail_if_success (with_reducible show wpAny _ _ (exec (Stmt.While _ _ _ _) _) _ _ _)); (first | (k_unfold; (try dsimp only)) | walk1 | (dsimp only; walk1))))
local macro_rules | `(tactic| walk_at "MineOfC") => `(tactic| (
  refine' does_ofC ?k6 ?k7 ?k9 ?kB ?kD ?_ ?c2 ?c3 ?c4 ?c6
  (case k6 => k_is); (case k7 => k_is); (case k9 => intro s9 kIn9; first | exact BindsTo.of_eq rfl | exact binds_K kIn9 rfl (by k_is) rfl rfl rfl | fail "enter: no rule for these arguments"); (case c6 => decide); (case kB => exact rfl); (case kD => decide +kernel); (case c2 => exact rfl); (case c3 => exact rfl); (case c4 => exact rfl)))
set_option hygiene false in
local macro_rules | `(tactic| walk_at "MineEnterC") => `(tactic| (
  k_fill
  walk_at "MineOfC"
  intro dp un gd cn cs L a ccd cl outer bs0 s g L' h' tk0 cells hdp hun hpre F' N' Y' B' X' T' hck; k_cells Y'; (try simp only [List.cons_append, List.nil_append] at N'); (try dsimp only at hpre); (try dsimp only); (try k_fold)))
local macro_rules | `(tactic| walk_at "MineTillComp") => `(tactic| repeat' ((fail_if_success (with_reducible show wpAny _ _ (eval (Expr.ListComp _ _ _ _) _) _ _ _)); (first | (k_unfold; (try dsimp only)) | walk1 | (dsimp only; walk1))))
-- numeral
set_option hygiene false in
local macro_rules | `(tactic| walk_at "call ref") => `(tactic| (k_here; (with_reducible show wpAny _ _ (call (Value.ref 29) _) _ _ _); k_dflt (refine' does_use (does_small _ _ _ _ _ _ _ _ _ _ ?hdg ?hb ?hn ?hz) ?k1 ?k2 ?k3 ?k4 ?k5 ?kK ?kd ?ku ?kp ?_; (case kp => trivial); (case hdg => first | with_reducible assumption | exact std_eq); (case hb => exact hbh.out); (case hn => omega); (case hz => exact hzh.out); walk_at "MineUse"); intro r9 h9 tk9 S9 P9 F9 N9; rw [snum_txt hpos] at P9; obtain ⟨t9, rfl⟩ := P9; (try dsimp only); (try k_sweep); (try k_fold)))
theorem does_num4 (w : World) (mean : ExcName → Option Value) (mg mb : Str → Option Value) (n base : Int) (tn tb ts td : Tok) (dgs : Str) (hdg : dgs = mkS sd)
    (hb : base = 2 ∨ base = 8 ∨ base = 10 ∨ base = 16) (hpos : 0 < n) (hz : n.natAbs < 2 ^ 200) :
    Dz w mean mg mb 37 2 [.int n tn, .int base tb, .int 40 ts, .str dgs td] (fun _ => True) (fun _ _ r => ∃ t, r = .str (txt (figs base n)) t) := by
  w_top off
  k_with_none
  unfold Dz
  refine does_with [(Str.ofString "n", .int n tn), (Str.ofString "base", .int base tb), (Str.ofString "size", .int 40 ts), (Str.ofString "digits", .str dgs td)] ?_
  have hb1 : 2 ≤ base ∧ base ≤ 16 := by omega
  have hzh := KIN.Hid.mk hz
  have hbh := KIN.Hid.mk hb
  clear hz hb
  walk_at "MineEnter"
  walk_at "MineSteps"
  all_goals walk_at "MineEnd"
  exact ⟨_, rfl⟩
theorem does_num3 (w : World) (mean : ExcName → Option Value) (mg mb : Str → Option Value) (n base : Int) (tn tb ts : Tok)
    (hb : base = 2 ∨ base = 8 ∨ base = 10 ∨ base = 16) (hpos : 0 < n) (hz : n.natAbs < 2 ^ 200) :
    Dz w mean mg mb 37 2 [.int n tn, .int base tb, .int 40 ts] (fun _ => True) (fun _ _ r => ∃ t, r = .str (txt (figs base n)) t) := by
  w_top off
  k_with_none
  unfold Dz
  refine does_with [(Str.ofString "n", .int n tn), (Str.ofString "base", .int base tb), (Str.ofString "size", .int 40 ts), (Str.ofString "digits", .str (Str.ofString "0123456789abcdefghijklmnopqrstuvwxyz") 199)] ?_
  have hb1 : 2 ≤ base ∧ base ≤ 16 := by omega
  have hzh := KIN.Hid.mk hz
  have hbh := KIN.Hid.mk hb
  clear hz hb
  walk_at "MineEnter"
  walk_at "MineSteps"
  all_goals walk_at "MineEnd"
  exact ⟨_, rfl⟩
-- nought
theorem does_num0 (w : World) (mean : ExcName → Option Value) (mg mb : Str → Option Value) (base : Int) (tn tb : Tok) (hb1 : 2 ≤ base ∧ base ≤ 16) :
    Dz w mean mg mb 37 2 [.int 0 tn, .int base tb] (fun _ => True) (fun _ _ r => ∃ t, r = .str (Str.ofString "0") t) := by
  w_top off
  k_with_none
  unfold Dz
  refine does_with [(Str.ofString "n", .int 0 tn), (Str.ofString "base", .int base tb), (Str.ofString "size", .int 0 214), (Str.ofString "digits", .str (Str.ofString "0123456789abcdefghijklmnopqrstuvwxyz") 199)] ?_
  walk_at "MineEnter"
  walk_at "MineSteps"
  all_goals walk_at "MineEnd"
  exact ⟨_, rfl⟩
-- below nought
set_option hygiene false in
local macro_rules | `(tactic| walk_at "call ref") => `(tactic| (k_here; (with_reducible show wpAny _ _ (call (Value.ref 37) _) _ _ _); k_dflt (refine' does_use (does_num4 _ _ _ _ _ _ _ _ _ _ _ ?hdg ?hb ?hn ?hz) ?k1 ?k2 ?k3 ?k4 ?k5 ?kK ?kd ?ku ?kp ?_; (case kp => trivial); (case hdg => exact std_eq); (case hb => exact hbh.out); (case hn => omega); (case hz => exact hzh.out); walk_at "MineUse"); intro r9 h9 tk9 S9 P9 F9 N9; obtain ⟨t9, rfl⟩ := P9; (try dsimp only); (try k_sweep); (try k_fold)))
set_option hygiene false in
local macro_rules | `(tactic| walk_at "binaryOp Add str str") => `(tactic| ((with_reducible show wpAny _ _ (binaryOp Operator.Add (Value.str _ _) (Value.str _ _)) _ _ _); (refine' r_add ?hx ?hy ?hn ?hn' ?_; (case hx => walk_at "MineStr"); (case hy => walk_at "MineStr"); (case hn => walk_at "MineLen"); (case hn' => walk_at "MineLen")); intro t' k'))
theorem does_numN (w : World) (mean : ExcName → Option Value) (mg mb : Str → Option Value) (n base : Int) (tn tb ts : Tok)
    (hb : base = 2 ∨ base = 8 ∨ base = 10 ∨ base = 16) (hneg : n < 0) (hz : (-n).natAbs < 2 ^ 200) :
    Dz w mean mg mb 37 3 [.int n tn, .int base tb, .int 40 ts] (fun _ => True) (fun _ _ r => ∃ t, r = .str (mkS ([45] ++ (figs base (-n)).map dig)) t) := by
  w_top off
  k_with_none
  unfold Dz
  refine does_with [(Str.ofString "n", .int n tn), (Str.ofString "base", .int base tb), (Str.ofString "size", .int 40 ts), (Str.ofString "digits", .str (Str.ofString "0123456789abcdefghijklmnopqrstuvwxyz") 199)] ?_
  have hb1 : 2 ≤ base ∧ base ≤ 16 := by omega
  have hfl := figs_len hb1 hz
  have hzh := KIN.Hid.mk hz
  have hbh := KIN.Hid.mk hb
  clear hz hb
  walk_at "MineEnter"
  walk_at "MineSteps"
  all_goals walk_at "MineEnd"
  all_goals first | exact ⟨_, rfl⟩ | (exfalso; omega)

end W37
section WC
-- a comprehension over a text, a name of the caller's read in it
theorem comp_text {prog : Program} {w : World} {A : Around} {E : Value → Shared → Prop} {s : Shared} {h₀ : Heap} {L : Addr} {m : PySem.Str → Option Value} {env : Env}
    {elt iter : PySem.Expr} {x : PySem.Str} {px : Pos} {scope : Scope} {cl : List (PySem.Str × Addr)} {pos : Pos} {Q : Value → Shared → Prop} {d : PySem.Str → PyData}
    (_F₀ : Fr h₀ L s.heap m) (hh : A.handled = none) (hclos : closureFor scope env = pure cl) (hcell : ∀ y ∈ scope.names, y.2 ≠ .cell) (hkind : scope.kind = .function)
    (hnames : ∀ y ∈ scope.names, y.2 = .local → scope.names.lookup y.1 = some .local) (hx : scope.names.lookup x = some .local)
    (h : wpAny (model prog w) A (eval iter env) (fun xv s₁ => ∃ (news : List (Addr × Obj)) (y : PySem.Str) (t : Tok), xv = .str y t ∧ y.length ≤ sizeLine ∧ Fr h₀ L s₁.heap m ∧ News h₀ L s₁.heap news ∧
      (∀ C a u s₂ m₂ E', s₁.heap.objs.size ≤ C → a ∈ signs y → s₂.heap.Ns (compEnvC scope cl C env).locals m₂ → m₂ x = some (.str a u) → (∀ b o, s₁.heap.get? b = some o → s₂.heap.get? b = some o) →
        wpAny (model prog w) A (eval elt (compEnvC scope cl C env)) (fun r s₃ => Carried r (d a) ∧ Keeps s₂ s₃) E' s₂) ∧
      (∀ D (ys : List Value) h' tk, Fr h₀ L h' m → News h₀ L h' news → h₀.get? D = none → h'.IsList D ys.toArray → NewPlain h' news D ys.toArray → CarriedAll ys ((signs y).map d) → Q (.ref D) { s₁ with heap := h', toks := tk })) E s)
    (hs : ∀ x, foldedSetIterable iter env x = pure x) :
    wpAny (model prog w) A (eval (.ListComp elt [⟨.Name x px, iter, [], 0⟩] scope pos) env) Q E s := by
  refine wpAny_ListComp_free (ItemKind.str.lift fun _ => true) (fun v r => ∃ a, ItemKind.str.is a v ∧ Carried r (d a)) hclos hcell hkind hnames hx (wpAny_mono h (fun xv s₁ h₁ => ?_) fun _ _ e => e) hs
  obtain ⟨news, y, t, rfl, hsz, F, N, helt, hQ⟩ := h₁
  refine wpAny_pyIter_str fun o St W hst => ?_
  have up : ∀ (h' : Heap), (∀ b o', b ∉ [s₁.heap.objs.size] → (s₁.heap.push o).get? b = some o' → h'.get? b = some o') → ∀ b o', s₁.heap.get? b = some o' → h'.get? b = some o' :=
    fun h' hk b o' e => hk b o' (old_not_new e) (Heap.get?_push_of_some _ e)
  refine ⟨s₁.heap.objs.size, [s₁.heap.objs.size], [s₁.heap.objs.size], y.cps.size, SignAt y, St, rfl, W A hh, hsz, hst, ?_, ⟨?_, ?_⟩, ?_⟩
  · intro b hb
    show b < (s₁.heap.push o).objs.size
    rw [Heap.size_push, List.mem_singleton.mp hb]
    exact Nat.lt_succ_self _
  · intro C i v s₃ m₃ E' hC hP hn hm hk _
    obtain ⟨c, u, _, rfl⟩ := hP
    exact wpAny_pure ⟨rfl, s₃.heap, s₃.toks, rfl, fun _ _ e => e⟩
  · intro C i v s₃ m₃ E' hC hP hp hn hm hk _
    obtain ⟨c, u, hc, rfl⟩ := hP
    have hmem : (⟨#[c]⟩ : PySem.Str) ∈ signs y := by
      unfold signs
      refine List.mem_map.mpr ⟨c, ?_, rfl⟩
      exact Array.mem_toList_iff.mpr (Array.mem_of_getElem? hc)
    exact wpAny_mono (helt C _ u s₃ m₃ E' (Nat.le_of_succ_le (by simpa [Heap.size_push] using hC)) hmem hn hm (up _ hk)) (fun r s₄ h₄ => ⟨⟨_, ⟨u, rfl⟩, h₄.1⟩, h₄.2⟩) fun _ _ e => e
  · intro D h' tk ys vs hnew hlD hplD hlen hP hF hk
    have hp := (areOf_signs hlen hP).paired (fun _ => true) d (ys := ys.toList) hF
    rw [List.filter_eq_self.mpr (fun _ _ => rfl)] at hp
    refine hQ D ys.toList h' tk (F.keeps (up h' hk)) (N.grown (up h' hk)) ?_ (by rw [Array.toArray_toList]; exact hlD) ⟨by rw [Array.toArray_toList]; exact hplD, fun p hp e => by rw [← e, Heap.get?_push_of_some _ (N p hp).1] at hnew; cases hnew⟩ hp
    cases e : h₀.get? D with
    | none => rfl
    | some o' => rw [Heap.get?_push_of_some _ (F.keep _ _ e)] at hnew; cases hnew
def codeOf (a : PySem.Str) : Nat := a.cps.toList.headD 0
def dIn (known : PySem.Str) (a : PySem.Str) : PyData := PyData.bool (decide (codeOf a ∈ known.cps.toList))
def dIdx (known : PySem.Str) (a : PySem.Str) : PyData := PyData.int (Txt.find known a)
theorem keeps_refl (s : Shared) : Keeps s s := ⟨s.heap, s.toks, rfl, fun _ _ e => e⟩
theorem signs_code {a y : PySem.Str} (h : a ∈ signs y) : a = ⟨#[codeOf a]⟩ ∧ codeOf a ∈ y.cps.toList := by
  unfold signs at h
  obtain ⟨c, hc, rfl⟩ := List.mem_map.mp h
  exact ⟨rfl, hc⟩
theorem in_dIn {a y known : PySem.Str} (h : a ∈ signs y) : (!(Builtin.Str.occurrences known a 0 known.length 1).isEmpty) = decide (codeOf a ∈ known.cps.toList) := by
  obtain ⟨e, _⟩ := signs_code h
  have := StrLaws.found_one known (codeOf a)
  rw [← e] at this
  exact this
theorem carried_in {a y known : PySem.Str} (h : a ∈ signs y) : Carried (Value.bool (!(Builtin.Str.occurrences known a 0 known.length 1).isEmpty)) (dIn known a) := by
  rw [in_dIn h]
  exact Carried.bool _
theorem signs_txt {a : PySem.Str} {ds : List Int} (h : a ∈ signs (txt ds)) : ∃ d ∈ ds, a = mkS [dig d] := by
  obtain ⟨e, hc⟩ := signs_code h
  rw [txt, mkS_cps] at hc
  obtain ⟨d, hd, hd'⟩ := List.mem_map.mp hc
  exact ⟨d, hd, by rw [e, ← hd']; rfl⟩
theorem r_index {prog : Program} {w : World} {A : Around} {E : Value → Shared → Prop} {s : Shared} {x y : PySem.Str} {t u : Tok} {Q : Value → Shared → Prop} (hA : A.handled = none) (h0 : 0 ≤ Txt.find x y)
    (h : Q (.int (Txt.find x y) s.toks) { s with toks := s.toks + 1 }) : wpAny (model prog w) A (call (.builtin "str.index") [.str x t, .str y u]) Q E s :=
  index_or hA (fun e _ => by omega) (fun _ _ => h)
theorem find_known {base d : Int} (hb : base = 2 ∨ base = 8 ∨ base = 10 ∨ base = 16) (hd : 0 ≤ d ∧ d < base) : Txt.find (Txt.slice (PySem.Str.ofString "0123456789abcdef") none (some base)) (mkS [dig d]) = d := by
  have go : ∀ n : Nat, n < 17 → ∀ m : Nat, m < 17 → (¬ (m = 2 ∨ m = 8 ∨ m = 10 ∨ m = 16) ∨ ¬ n < m ∨ Txt.find (Txt.slice (PySem.Str.ofString "0123456789abcdef") none (some (m : Int))) (mkS [sd.getD n 0]) = (n : Int)) := by decide +kernel
  have h := ((go d.toNat (by omega) base.toNat (by omega)).resolve_left (by omega)).resolve_left (by omega)
  rw [show ((base.toNat : Nat) : Int) = base by omega, show ((d.toNat : Nat) : Int) = d by omega] at h
  exact h
theorem find_hex {d : Int} (hd : 0 ≤ d ∧ d < 16) : Txt.find (PySem.Str.ofString "0123456789abcdef") (mkS [dig d]) = d := by
  have go : ∀ n : Nat, n < 16 → Txt.find (PySem.Str.ofString "0123456789abcdef") (mkS [sd.getD n 0]) = (n : Int) := by decide +kernel
  have h := go d.toNat (by omega)
  rw [show ((d.toNat : Nat) : Int) = d by omega] at h
  exact h
theorem find_nonneg {base : Int} {a : PySem.Str} {ds : List Int} (hb : base = 2 ∨ base = 8 ∨ base = 10 ∨ base = 16) (hd : InB base ds) (h : a ∈ signs (txt ds)) : 0 ≤ Txt.find (Txt.slice (PySem.Str.ofString "0123456789abcdef") none (some base)) a := by
  obtain ⟨d, hm, rfl⟩ := signs_txt h
  rw [find_known hb (hd d hm)]
  exact (hd d hm).1
theorem signs_map (ds : List Int) : signs (txt ds) = ds.map fun d => mkS [dig d] := by
  unfold signs
  show (mkS (ds.map dig)).cps.toList.map _ = _
  rw [mkS_cps, List.map_map]
  rfl
-- an item's place in a known text: the element of a comprehension
theorem elt_index {prog : Program} {w : World} {A : Around} {E : Value → Shared → Prop} {s : Shared} {env : Env} {o : PySem.Expr} {x : PySem.Str} {p2 p3 p4 : Pos} {known a : PySem.Str} {u : Tok} {m : PySem.Str → Option Value}
    (hA : A.handled = none) (ho : ∀ Q : Value → Shared → Prop, (∀ tk s', Keeps s s' → s'.heap = s.heap → Q (.str known tk) s') → wpAny (model prog w) A (eval o env) Q E s)
    (hk : env.scope.kind = .function) (hx : env.kindOf x = some .local) (hn : s.heap.Ns env.locals m) (hm : m x = some (.str a u)) (hd : (x == ("__debug__" : PySem.Str)) = false) (h0 : 0 ≤ Txt.find known a)
    (he : ∃ pl : Sem Bool, eval (.Call (.Attribute o (Str.ofString "index") p2) [.Name x p3] [] p4) env = (do
      let ov ← eval o env
      standAt p2.atName
      let (f, first) ← holding [ov] (getMethod ov (Str.ofString "index") pl)
      callWith p4 f first (backTo p4 (starEach [.Name x p3] env)) [])) :
    wpAny (model prog w) A (eval (.Call (.Attribute o (Str.ofString "index") p2) [.Name x p3] [] p4) env) (fun r s₃ => Carried r (dIdx known a) ∧ Keeps s s₃) E s := by
  obtain ⟨pl, he⟩ := he
  refine MethodCall_ (pl := pl) (ho _ fun tk s' k' e' => ?_) he
  refine GM.index (callWith_method1 (args_cons (wpAny_Name (wpAny_loadName_local hk hx (e' ▸ hn) hm (args_nil ?_)) hd)))
  refine r_index hA h0 ⟨Carried.int _ _, ?_⟩
  obtain ⟨h', tk', rfl, kk⟩ := k'
  exact ⟨h', _, rfl, kk⟩
theorem ints_known {base : Int} {ys : List Value} {ds : List Int} (hb : base = 2 ∨ base = 8 ∨ base = 10 ∨ base = 16) (hd : InB base ds)
    (h : CarriedAll ys ((signs (txt ds)).map (dIdx (Txt.slice (PySem.Str.ofString "0123456789abcdef") none (some base))))) : IntsAre ys ds := by
  rw [signs_map, List.map_map] at h
  have e : ds.map (dIdx (Txt.slice (PySem.Str.ofString "0123456789abcdef") none (some base)) ∘ fun d => mkS [dig d]) = ds.map PyData.int := List.map_congr_left fun d hm => congrArg PyData.int (find_known hb (hd d hm))
  rw [e] at h
  exact IntsAre.ofCarried h
theorem ints_hex {base : Int} {ys : List Value} {ds : List Int} (hb : base = 2 ∨ base = 8 ∨ base = 10 ∨ base = 16) (hd : InB base ds)
    (h : CarriedAll ys ((signs (txt ds)).map (dIdx (PySem.Str.ofString "0123456789abcdef")))) : IntsAre ys ds := by
  rw [signs_map, List.map_map] at h
  have e : ds.map (dIdx (PySem.Str.ofString "0123456789abcdef") ∘ fun d => mkS [dig d]) = ds.map PyData.int := List.map_congr_left fun d hm => congrArg PyData.int (find_hex (by have := hd d hm; omega))
  rw [e] at h
  exact IntsAre.ofCarried h
theorem code_known {base d : Int} (hb : base = 2 ∨ base = 8 ∨ base = 10 ∨ base = 16) (hd : 0 ≤ d ∧ d < base) : codeOf (mkS [dig d]) ∈ (Txt.slice (PySem.Str.ofString "0123456789abcdef") none (some base)).cps.toList := by
  rw [hex_eq, slice_to_mkS (by omega) (by rw [hx_len]; omega), mkS_cps]
  have go : ∀ m : Nat, m < 17 → ∀ n : Nat, n < 17 → ¬ n < m ∨ sd.getD n 0 ∈ hx.take m := by decide +kernel
  exact (go base.toNat (by omega) d.toNat (by omega)).resolve_left (by omega)
theorem all_known {base : Int} {ds : List Int} (hb : base = 2 ∨ base = 8 ∨ base = 10 ∨ base = 16) (hd : InB base ds) :
    ((signs (txt ds)).all fun a => decide (codeOf a ∈ (Txt.slice (PySem.Str.ofString "0123456789abcdef") none (some base)).cps.toList)) = true :=
  List.all_eq_true.mpr fun a ha => by
    obtain ⟨d, hm, rfl⟩ := signs_txt ha
    exact decide_eq_true (code_known hb (hd d hm))
theorem head_not {base n : Int} (hb : 2 ≤ base ∧ base ≤ 16) (hn : 0 < n) : (mkS [(List.map dig (figs base n)).getD (Int.toNat 0) 0] == Str.ofString "0") = false := by
  have hin := figs_in (n := n) hb
  obtain ⟨d, r, e, hd⟩ := figs_head hb hn
  rw [e] at hin ⊢
  have h1 := hin d (List.mem_cons_self ..)
  refine beq_eq_false_iff_ne.mpr fun h => hd ?_
  rw [zero_eq] at h
  have h2 : dig d = dig 0 := by
    have h3 := mkS_inj h
    show dig d = 48
    simpa using h3
  exact dig_inj (by omega) (by decide) h2
-- «is it in the first figures»: the element of a comprehension
theorem elt_inslice {prog : Program} {w : World} {A : Around} {E : Value → Shared → Prop} {s : Shared} {env : Env} {x hex a y : PySem.Str} {kk : Nat} {eb : PySem.Expr} {b : Int} {u tb : Tok} {p1 p2 p4 p5 p6 : Pos} {m : PySem.Str → Option Value}
    (hk : env.scope.kind = .function) (hx : env.kindOf x = some .local) (hn : s.heap.Ns env.locals m) (hm : m x = some (.str a u)) (hd : (x == ("__debug__" : PySem.Str)) = false)
    (ho : ∀ (k' : Nat) (Q : Value → Shared → Prop), Q (.int b tb) { s with toks := k' } → wpAny (model prog w) A (eval eb env) Q E { s with toks := k' })
    (hin : a ∈ signs y) (hlen : hex.length ≤ 1000) :
    wpAny (model prog w) A (eval (.Compare (.Name x p1) [.In] [.Subscript (.Constant (.str hex) kk p2) (.Slice none (some eb) none p4) p5] p6) env) (fun r s₃ => Carried r (dIn (Txt.slice hex none (some b)) a) ∧ Keeps s s₃) E s := by
  refine wpAny_Compare1 (wpAny_Name (wpAny_loadName_local hk hx hn hm (Subscript_ ?_)) hd)
  refine wpAny_Constant_str (wpAny_Slice (evalPart_none_step (evalPart_some_step (ho _ _ (evalPart_none_step ?_)))))
  refine tail_of_ItemOn (SBH.sliceItem_ns (s := { s with toks := s.toks + 1 }) (P := fun h => ∀ b o, s.heap.get? b = some o → h.get? b = some o) (fun _ ob q b o e => Heap.get?_push_of_some ob (q b o e)) (fun _ _ e => e) (fun h' t' k q => ?_) (by rw [sizeLine_eq]; omega)) (by with_unfolding_all rfl) (by intro _; with_unfolding_all rfl)
  refine PyProof.Rows.in_str ⟨carried_in hin, h', k, rfl, q⟩
theorem hex_nonneg {base : Int} {a : PySem.Str} {ds : List Int} (hb : base = 2 ∨ base = 8 ∨ base = 10 ∨ base = 16) (hd : InB base ds) (h : a ∈ signs (txt ds)) : 0 ≤ Txt.find (PySem.Str.ofString "0123456789abcdef") a := by
  obtain ⟨d, hm, rfl⟩ := signs_txt h
  have := hd d hm
  rw [find_hex (by omega)]
  exact this.1

end WC
section W83
local macro_rules | `(tactic| walk_at "MineOf") => `(tactic| (
  refine' does_of' ?k6 ?k7 ?k9 ?kB ?_ ?c2 ?c3 ?c4 ?c5 ?c6
  (case k6 => k_is); (case k7 => k_is); (case k9 => intro s9 kIn9; first | exact BindsTo.of_eq rfl | exact binds_K kIn9 rfl (by k_is) rfl rfl rfl | fail "enter: no rule for these arguments"); (case c5 => decide); (case c6 => decide); (case kB => exact locs rfl); (case c2 => exact rfl); (case c3 => exact rfl); (case c4 => exact rfl)))
set_option hygiene false in
local macro_rules | `(tactic| walk_at "MineEnter") => `(tactic| (
  k_fill
  walk_at "MineOf"
  intro dp un gd cn cs L a ccd cl outer bs0 s g L' h' hdp hun hpre F' N' B' X' T' hck; (try dsimp only at hpre); (try dsimp only); (try k_fold)))
local macro_rules | `(tactic| walk_at "MineEnd") => `(tactic| ((try dsimp only); (try (k_unfold; try dsimp only)); (refine RetP.intro (Fr.keep (by k_asm)) ?_)))
set_option linter.unusedVariables false
local macro_rules | `(tactic| walk_at "MineSteps") => `(tactic| repeat' (first | (k_unfold; (try dsimp only)) | ((with_reducible show InvEndN _ _ _ _ _ _ _); kst_close) | walk1 | (dsimp only; walk1) | (k_end; wrow_close) | (leave1; walk_say "STEP leave1"; try dsimp only) | fail "no step"))
local macro_rules | `(tactic| walk_at "MineUse") => `(tactic| (
  (case k1 => k_asm); (case k2 => k_asm); (case k3 => k_asm); (case k4 => k_asm); (case k5 => k_asm); (case kK => first | exact rfl | assumption); (case kd => first | ((try dsimp only); omega) | decide +kernel); (case ku => first | ((try dsimp only); omega) | decide +kernel)))
local macro_rules | `(tactic| walk_at "MineStr") => `(tactic| first | with_reducible exact rfl | with_reducible exact txt_eq _ | with_reducible exact std_eq | with_reducible exact hex_eq | with_reducible exact zero_eq | with_reducible exact one_eq | with_reducible exact minus_eq | with_reducible assumption)
local macro_rules | `(tactic| walk_at "MineLen") => `(tactic| ((try simp only [sd_len, hx_len, List.length_map, List.length_take, List.length_drop, List.length_append, List.length_cons, List.length_nil, List.length_replicate]); omega))
local macro_rules | `(tactic| walk_at "MineItem") => `(tactic| (k_here; (with_reducible show wpAny _ _ (subscriptTail _ _ (Value.str _ _) (Value.int _ _)) _ _ _); (refine' r_item ?hx ?hn ?h0 ?h1 ?_ ?hs ?ht; (case hx => walk_at "MineStr"); (case hn => walk_at "MineLen"); (case h0 => walk_at "MineLen"); (case h1 => walk_at "MineLen"); (case hs => with_unfolding_all rfl); (case ht => intro _; with_unfolding_all rfl))))
local macro_rules | `(tactic| walk_at "MineSlice") => `(tactic| (k_here; (with_reducible rename Fr _ _ _ _ => F'); (with_reducible rename News _ _ _ _ => N'); first
  | ((with_reducible show wpAny _ _ (subscriptTail _ (Expr.Slice none (some _) none _) (Value.str _ _) _) _ _ _); (refine' r_slice_to (s := ⟨_, _, _, _, _⟩) ?hx ?hn F' N' ?h0 ?h2 ?_ ?hs ?ht; (case hx => walk_at "MineStr"); (case hn => walk_at "MineLen"); (case h0 => walk_at "MineLen"); (case h2 => walk_at "MineLen"); (case hs => with_unfolding_all rfl); (case ht => intro _; with_unfolding_all rfl)); intro h' t' k' F'' N''; (try k_sweep))
  | ((with_reducible show wpAny _ _ (subscriptTail _ (Expr.Slice (some _) (some _) none _) (Value.str _ _) _) _ _ _); (refine' r_slice (s := ⟨_, _, _, _, _⟩) ?hx ?hn F' N' ?h0 ?h1 ?h2 ?_ ?hs ?ht; (case hx => walk_at "MineStr"); (case hn => walk_at "MineLen"); (case h0 => walk_at "MineLen"); (case h1 => walk_at "MineLen"); (case h2 => walk_at "MineLen"); (case hs => with_unfolding_all rfl); (case ht => intro _; with_unfolding_all rfl)); intro h' t' k' F'' N''; (try k_sweep))))
local macro_rules | `(tactic| walk_at "subscriptTail Name Name str int") => `(tactic| walk_at "MineItem")
local macro_rules | `(tactic| walk_at "subscriptTail Name Constant str int") => `(tactic| walk_at "MineItem")
local macro_rules | `(tactic| walk_at "subscriptTail Name BinOp str int") => `(tactic| walk_at "MineItem")
local macro_rules | `(tactic| walk_at "subscriptTail Name Slice str ref") => `(tactic| walk_at "MineSlice")
local macro_rules | `(tactic| walk_at "subscriptTail Constant Slice str ref") => `(tactic| walk_at "MineSlice")
local macro_rules | `(tactic| walk_at "execs nil") => `(tactic| ((refine wpAny_execs_nil ?_); dsimp only))
local macro_rules | `(tactic| walk_at "MineTillWhile") => `(tactic| repeat' ((fail_if_success (with_reducible show wpAny _ _ (exec (Stmt.While _ _ _ _) _) _ _ _)); (first | (k_unfold; (try dsimp only)) | walk1 | (dsimp only; walk1))))
local macro_rules | `(tactic| walk_at "MineOfC") => `(tactic| (
  refine' does_ofC ?k6 ?k7 ?k9 ?kB ?kD ?_ ?c2 ?c3 ?c4 ?c6
  (case k6 => k_is); (case k7 => k_is); (case k9 => intro s9 kIn9; first | exact BindsTo.of_eq rfl | exact binds_K kIn9 rfl (by k_is) rfl rfl rfl | fail "enter: no rule for these arguments"); (case c6 => decide); (case kB => exact rfl); (case kD => decide +kernel); (case c2 => exact rfl); (case c3 => exact rfl); (case c4 => exact rfl)))
set_option hygiene false in
local macro_rules | `(tactic| walk_at "MineEnterC") => `(tactic| (
  k_fill
  walk_at "MineOfC"
  intro dp un gd cn cs L a ccd cl outer bs0 s g L' h' tk0 cells hdp hun hpre F' N' Y' B' X' T' hck; k_cells Y'; (try simp only [List.cons_append, List.nil_append] at N'); (try dsimp only at hpre); (try dsimp only); (try k_fold)))
local macro_rules | `(tactic| walk_at "MineTillComp") => `(tactic| repeat' ((fail_if_success (with_reducible show wpAny _ _ (eval (Expr.ListComp _ _ _ _) _) _ _ _)); (first | (k_unfold; (try dsimp only)) | walk1 | (dsimp only; walk1))))
-- _law_numeral_right
set_option hygiene false in
local macro_rules | `(tactic| walk_at "call ref") => `(tactic| (k_here; (with_reducible show wpAny _ _ (call (Value.ref 29) _) _ _ _); k_dflt (refine' does_use (does_small2 _ _ _ _ _ _ _ _ ?hb ?hn ?hz) ?k1 ?k2 ?k3 ?k4 ?k5 ?kK ?kd ?ku ?kp ?_; (case kp => trivial); (case hb => exact hbh.out); (case hn => omega); (case hz => exact hzh.out); walk_at "MineUse"); intro r9 h9 tk9 S9 P9 F9 N9; rw [snum_txt hpos] at P9; obtain ⟨t9, rfl⟩ := P9; (try dsimp only); (try k_sweep); (try k_fold)))
set_option hygiene false in
local macro_rules | `(tactic| walk_at "call ref") => `(tactic| (k_here; (with_reducible show wpAny _ _ (call (Value.ref 37) [Value.int n _, _, _]) _ _ _); k_dflt (refine' does_use (does_num3 _ _ _ _ _ _ _ _ _ ?hb ?hn ?hz) ?k1 ?k2 ?k3 ?k4 ?k5 ?kK ?kd ?ku ?kp ?_; (case kp => trivial); (case hb => exact hbh.out); (case hn => omega); (case hz => exact hzh.out); walk_at "MineUse"); intro r9 h9 tk9 S9 P9 F9 N9; obtain ⟨t9, rfl⟩ := P9; (try dsimp only); (try k_sweep); (try k_fold)))
set_option hygiene false in
local macro_rules | `(tactic| walk_at "eval ListComp") => `(tactic| (k_here; (with_reducible show wpAny _ _ (eval (Expr.ListComp (Expr.Compare _ _ _ _) _ _ _) _) _ _ _); (k_dflt ((refine' comp_text (d := dIn (Txt.slice (Str.ofString "0123456789abcdef") none (some base))) ?hF ?hh ?hclos ?hcell ?hkind ?hnames ?hx ?_ ?hs); (case hF => k_asm); (case hh => rfl); (case hclos => with_unfolding_all rfl); (case hcell => decide); (case hkind => rfl); (case hnames => decide); (case hx => rfl); (case hs => intro _; with_unfolding_all rfl); (refine' nameX_L ?F ?v ?_ ?a ?b); (case F => k_asm); (case a => rfl); (case b => rfl); (case v => rfl); (refine ⟨_, _, _, rfl, (by rw [txt_len, sizeLine_eq]; omega), (by k_asm), (by k_asm), ?elt, ?_⟩); (case elt => (intro C' a' u' s' m' E' hCs' ha' hn' hm' hk'; walk_at "MineSteps"; (first | (constructor; exact carried_in ha'; exact keeps_refl _) | (all_goals first | exact carried_in ha' | exact keeps_refl _)))))); (intro D' ys' h' tk' F' N' hD' hL' hP' hC'); (try k_sweep)))
set_option hygiene false in
local macro_rules | `(tactic| walk_at "eval ListComp") => `(tactic| (k_here; (with_reducible show wpAny _ _ (eval (Expr.ListComp (Expr.Call _ _ _ _) _ _ _) _) _ _ _); (k_dflt ((refine' comp_text (d := dIdx (Txt.slice (Str.ofString "0123456789abcdef") none (some base))) ?hF ?hh ?hclos ?hcell ?hkind ?hnames ?hx ?_ ?hs); (case hF => k_asm); (case hh => rfl); (case hclos => with_unfolding_all rfl); (case hcell => decide); (case hkind => rfl); (case hnames => decide); (case hx => rfl); (case hs => intro _; with_unfolding_all rfl); (refine' nameX_L ?F ?v ?_ ?a ?b); (case F => k_asm); (case a => rfl); (case b => rfl); (case v => rfl); (refine ⟨_, _, _, rfl, (by rw [txt_len, sizeLine_eq]; omega), (by k_asm), (by k_asm), ?elt, ?_⟩); (case elt => (intro C' a' u' s' m' E' hCs' ha' hn' hm' hk'; (refine' elt_index ?eA ?eO ?eK ?eX hn' hm' ?eD (find_nonneg hbh.out (figs_in hb1) ha') ⟨_, ?eH⟩); (case eO => (intro Q9 h9; refine' wpAny_Name (wpAny_loadName_cell ?f1 ?f2 ?f3 ⟨_, hk' _ _ (News.get ?f4 ?f5), ?f6⟩ (h9 _ _ (keeps_refl _) rfl)) ?f7; (case f1 => rfl); (case f2 => rfl); (case f3 => rfl); (case f4 => k_asm); (case f5 => k_mem); (case f6 => k_asm); (case f7 => decide))); (case eA => rfl); (case eK => rfl); (case eX => rfl); (case eD => decide); (case eH => rfl))))); (intro D' ys' h' tk' F' N' hD' hL' hP' hC'); (try k_sweep)))
set_option hygiene false in
local macro_rules | `(tactic| walk_at "call ref") => `(tactic| (k_here; (with_reducible show wpAny _ _ (call (Value.ref 66) _) _ _ _); k_dflt (refine' does_use (does_worth _ _ _ _ _ _ (figs base n) _ _ ?hi ?hb ?hl) ?k1 ?k2 ?k3 ?k4 ?k5 ?kK ?kd ?ku ?kp ?_; (case kp => (try dsimp only); is_list); (case hi => exact ints_known hbh.out (figs_in hb1) (by assumption)); (case hb => assumption); (case hl => omega); walk_at "MineUse"); intro r9 h9 tk9 S9 P9 F9 N9; rw [figs_worth hb1 (by omega)] at P9; obtain ⟨t9, rfl⟩ := P9; (try dsimp only); (try k_sweep); (try k_fold)))
set_option hygiene false in
local macro_rules | `(tactic| walk_at "call ref") => `(tactic| (k_here; (with_reducible show wpAny _ _ (call (Value.ref 37) [Value.int (-n) _, _, _]) _ _ _); k_dflt (refine' does_use (does_numN _ _ _ _ _ _ _ _ _ ?hb ?hn ?hz) ?k1 ?k2 ?k3 ?k4 ?k5 ?kK ?kd ?ku ?kp ?_; (case kp => trivial); (case hb => exact hbh.out); (case hn => omega); (case hz => (rw [Int.neg_neg]; exact hzh.out)); walk_at "MineUse"); intro r9 h9 tk9 S9 P9 F9 N9; rw [Int.neg_neg] at P9; obtain ⟨t9, rfl⟩ := P9; (try dsimp only); (try k_sweep); (try k_fold)))
set_option hygiene false in
local macro_rules | `(tactic| walk_at "binaryOp Add str str") => `(tactic| ((with_reducible show wpAny _ _ (binaryOp Operator.Add (Value.str _ _) (Value.str _ _)) _ _ _); (refine' r_add ?hx ?hy ?hn ?hn' ?_; (case hx => walk_at "MineStr"); (case hy => walk_at "MineStr"); (case hn => walk_at "MineLen"); (case hn' => walk_at "MineLen")); intro t' k'))
theorem does_right (w : World) (mean : ExcName → Option Value) (mg mb : Str → Option Value) (n base : Int) (tn tb : Tok)
    (hb : base = 2 ∨ base = 8 ∨ base = 10 ∨ base = 16) (hpos : 0 < n) (hz : n.natAbs < 2 ^ 200) :
    Dz w mean mg mb 83 4 [.int n tn, .int base tb] (fun _ => True) (fun _ _ r => r = .bool true) := by
  w_top off
  k_with_none
  unfold Dz
  refine does_with [(Str.ofString "number", .int n tn), (Str.ofString "base", .int base tb)] ?_
  have hb1 : 2 ≤ base ∧ base ≤ 16 := by omega
  have hfl := figs_len hb1 hz
  have hfl1 : 1 ≤ (figs base n).length := by obtain ⟨d, r, e, _⟩ := figs_head hb1 hpos; rw [e]; simp
  have hzh := KIN.Hid.mk hz
  have hbh := KIN.Hid.mk hb
  clear hz hb
  walk_at "MineEnterC"
  walk_at "MineSteps"
  all_goals try walk_at "MineEnd"
  all_goals first
    | exact congrArg Value.bool (beq_self_eq_true _)
    | (exfalso; exact absurd rfl (by with_reducible assumption))
    | (have h5 := (by with_reducible assumption : (txt (figs base n) != txt (figs base n)) = true); rw [bne_self_eq_false] at h5; cases h5)
    | (have h5 := (by with_reducible assumption : (_ == Str.ofString "0") = true); rw [head_not hb1 hpos] at h5; cases h5)
    | (have h5 := (by with_reducible assumption : (List.all _ _) = false); rw [all_known hbh.out (figs_in hb1)] at h5; cases h5)

end W83
section WL
-- a written menu at an unknown place
theorem r_pick {prog : Program} {w : World} {A : Around} {E : Value → Shared → Prop} {s : Shared} {value slice : PySem.Expr} {l : Addr} {vs : List Value} {k : Int} {u : Tok} {Q : Value → Shared → Prop}
    (hl : s.heap.IsList l vs.toArray) (h0 : 0 ≤ k) (h1 : k < vs.length) (hn : vs.length ≤ 1000) (h : ∀ v ∈ vs, Q v s)
    (hs : subscripted slice false (.ref l) (.int k u) = operate [.ref l, .int k u] (getItem (.ref l) (.int k u))) :
    wpAny (model prog w) A (subscriptTail value slice (.ref l) (.int k u)) Q E s := by
  have hk : k.toNat < vs.length := by omega
  refine tail_any hl.typeIs slot_list_getitem.lookup (wpAny_getItem_list hl h0 (by omega) (x := vs[k.toNat]) ?_ (h _ (List.getElem_mem _))) hs
  simp [hk]
def IsBase (b : Int) : Prop := b = 2 ∨ b = 8 ∨ b = 10 ∨ b = 16
def IsRnd (r : PySem.Str) : Prop := r = Str.ofString "n" ∨ r = Str.ofString "f" ∨ r = Str.ofString "c" ∨ r = Str.ofString "d" ∨ r = Str.ofString "u"
theorem r_menuB {prog : Program} {w : World} {A : Around} {E : Value → Shared → Prop} {s : Shared} {value slice : PySem.Expr} {l : Addr} {k : Int} {u t1 t2 t3 t4 : Tok} {Q : Value → Shared → Prop}
    (hl : s.heap.IsList l #[.int 10 t1, .int 2 t2, .int 8 t3, .int 16 t4]) (h0 : 0 ≤ k) (h1 : k < 4) (h : ∀ b t, IsBase b → Q (.int b t) s)
    (hs : subscripted slice false (.ref l) (.int k u) = operate [.ref l, .int k u] (getItem (.ref l) (.int k u))) :
    wpAny (model prog w) A (subscriptTail value slice (.ref l) (.int k u)) Q E s := by
  refine r_pick (vs := [.int 10 t1, .int 2 t2, .int 8 t3, .int 16 t4]) hl h0 h1 (by simp) (fun v hv => ?_) hs
  simp only [List.mem_cons, List.not_mem_nil, or_false] at hv
  rcases hv with rfl | rfl | rfl | rfl
  all_goals exact h _ _ (by unfold IsBase; decide)
theorem r_menuR {prog : Program} {w : World} {A : Around} {E : Value → Shared → Prop} {s : Shared} {value slice : PySem.Expr} {l : Addr} {k : Int} {u t1 t2 t3 t4 t5 : Tok} {Q : Value → Shared → Prop}
    (hl : s.heap.IsList l #[.str (Str.ofString "n") t1, .str (Str.ofString "f") t2, .str (Str.ofString "c") t3, .str (Str.ofString "d") t4, .str (Str.ofString "u") t5]) (h0 : 0 ≤ k) (h1 : k < 5) (h : ∀ b t, IsRnd b → Q (.str b t) s)
    (hs : subscripted slice false (.ref l) (.int k u) = operate [.ref l, .int k u] (getItem (.ref l) (.int k u))) :
    wpAny (model prog w) A (subscriptTail value slice (.ref l) (.int k u)) Q E s := by
  refine r_pick (vs := [.str (Str.ofString "n") t1, .str (Str.ofString "f") t2, .str (Str.ofString "c") t3, .str (Str.ofString "d") t4, .str (Str.ofString "u") t5]) hl h0 h1 (by simp) (fun v hv => ?_) hs
  simp only [List.mem_cons, List.not_mem_nil, or_false] at hv
  rcases hv with rfl | rfl | rfl | rfl | rfl
  · exact h _ _ (Or.inl rfl)
  · exact h _ _ (Or.inr (Or.inl rfl))
  · exact h _ _ (Or.inr (Or.inr (Or.inl rfl)))
  · exact h _ _ (Or.inr (Or.inr (Or.inr (Or.inl rfl))))
  · exact h _ _ (Or.inr (Or.inr (Or.inr (Or.inr rfl))))
theorem dir_of {r : PySem.Str} (h : IsRnd r) (minus : Bool) : ∃ dir, Dir r minus dir := by
  unfold Dir
  rcases h with rfl | rfl | rfl | rfl | rfl
  · exact ⟨2, Or.inl ⟨rfl, rfl⟩⟩
  · cases minus
    · exact ⟨0, Or.inr (Or.inl ⟨rfl, rfl, rfl⟩)⟩
    · exact ⟨1, Or.inr (Or.inr (Or.inl ⟨rfl, rfl, rfl⟩))⟩
  · cases minus
    · exact ⟨1, Or.inr (Or.inr (Or.inr (Or.inl ⟨rfl, rfl, rfl⟩)))⟩
    · exact ⟨0, Or.inr (Or.inr (Or.inr (Or.inr (Or.inl ⟨rfl, rfl, rfl⟩))))⟩
  · exact ⟨0, Or.inr (Or.inr (Or.inr (Or.inr (Or.inr (Or.inl ⟨rfl, rfl⟩)))))⟩
  · exact ⟨1, Or.inr (Or.inr (Or.inr (Or.inr (Or.inr (Or.inr ⟨rfl, rfl⟩)))))⟩
-- whole numbers: a power, a quotient, a rest
section
variable {prog : Program} {w : World} {A : Around} {E : Value → Shared → Prop} {s : Shared} {a b c : Int} {t u : Tok} {Q : Value → Shared → Prop}
theorem r_fdiv (hb : 0 < b) (hp : Builtin.divisionGoesByPylong a b = false) (h : ∀ t' k, Q (.int (a / b) t') { s with toks := k }) : wpAny (model prog w) A (binaryOp .FloorDiv (.int a t) (.int b u)) Q E s :=
  floordiv_int (by omega) (by rw [Int.fdiv_eq_ediv_of_nonneg _ (Int.le_of_lt hb)]; exact h _ _) (Or.inl hp)
theorem r_fmod (hb : 0 < b) (h : ∀ t' k, Q (.int (a % b) t') { s with toks := k }) : wpAny (model prog w) A (binaryOp .Mod (.int a t) (.int b u)) Q E s :=
  mod_int' (by omega) (by rw [Int.fmod_eq_emod_of_nonneg _ (Int.le_of_lt hb)]; exact h _ _)
theorem r_pow (h0 : 0 ≤ b) (h1 : b ≤ 1000) (hm : -16 ≤ a ∧ a ≤ 16) (hc : a ^ b.toNat = c) (h : ∀ t' k, Q (.int c t') { s with toks := k }) : wpAny (model prog w) A (binaryOp .Pow (.int a t) (.int b u)) Q E s := by
  subst hc
  exact pow_int_small h0 (by omega) (by omega) (h _ _)
end
-- a frame of which some names are known
def chain : List (PySem.Str × Value) → (PySem.Str → Option Value) → PySem.Str → Option Value
  | [], m => m
  | (x, v) :: r, m => fun y => if y = x then some v else chain r m y
theorem chain_same {m : PySem.Str → Option Value} : ∀ {ps : List (PySem.Str × Value)}, (∀ p ∈ ps, m p.1 = some p.2) → chain ps m = m
  | [], _ => rfl
  | (x, v) :: r, h => by
    funext y
    show (if y = x then some v else chain r m y) = m y
    rw [chain_same (ps := r) fun p hp => h p (.tail _ hp)]
    by_cases hy : y = x
    · rw [if_pos hy, hy]; exact (h (x, v) (.head _)).symm
    · rw [if_neg hy]
theorem fr_chain {h₀ h : Heap} {L : Addr} {m : PySem.Str → Option Value} (ps : List (PySem.Str × Value)) (F : Fr h₀ L h m) (e : ∀ p ∈ ps, m p.1 = some p.2) : Fr h₀ L h (chain ps m) := by
  rw [chain_same e]; exact F
theorem news_sub {h₀ h : Heap} {L : Addr} {news news' : List (Addr × Obj)} (N : News h₀ L h news) (h' : ∀ p ∈ news', p ∈ news) : News h₀ L h news' := fun p hp => N p (h' p hp)
-- after the law's first four statements
def Pins1 (l : Addr) (first rich many kept : Int) (rnd : PySem.Str) (minus : Bool) (t1 t2 t3 t4 t5 : Tok) : List (PySem.Str × Value) :=
  [(Str.ofString "script", .ref l), (Str.ofString "first", .int first t1), (Str.ofString "rich", .int rich t2), (Str.ofString "rnd", .str rnd t3), (Str.ofString "many", .int many t4), (Str.ofString "kept", .int kept t5), (Str.ofString "is_minus", .bool minus)]
def R1 (g : Heap) (L l : Addr) (s s' : Shared) : Prop :=
  ∃ (h' : Heap) (tk : Nat) (u : PySem.Str → Option Value) (o : Obj) (first rich many kept base : Int) (rnd : PySem.Str) (minus : Bool) (t1 t2 t3 t4 t5 tb : Tok),
    s' = { s with heap := h', toks := tk } ∧ Fr g L h' (chain (Pins1 l first rich many kept rnd minus t1 t2 t3 t4 t5) u) ∧ News g L h' [(L + 1, o)] ∧ o.data = .cell (some (.int base tb)) ∧
    IsBase base ∧ IsRnd rnd ∧ (2 ≤ many ∧ many ≤ 40) ∧ (1 ≤ kept ∧ kept < many)
theorem R1.mk {g h' : Heap} {L l : Addr} {s : Shared} {m : PySem.Str → Option Value} {tk : Nat} {news : List (Addr × Obj)} {o : Obj} {first rich many kept base X : Int} {rnd : PySem.Str} {minus : Bool} {t1 t2 t3 t4 t5 tb : Tok}
    (F : Fr g L h' m) (N : News g L h' news) (hm : (L + 1, o) ∈ news) (hd : o.data = .cell (some (.int base tb)))
    (e1 : m (Str.ofString "script") = some (.ref l)) (e2 : m (Str.ofString "first") = some (.int first t1)) (e3 : m (Str.ofString "rich") = some (.int rich t2)) (e4 : m (Str.ofString "rnd") = some (.str rnd t3))
    (e5 : m (Str.ofString "many") = some (.int many t4)) (e6 : m (Str.ofString "kept") = some (.int kept t5)) (e7 : m (Str.ofString "is_minus") = some (.bool minus))
    (hb : IsBase base) (hr : IsRnd rnd) (hmany : many = 2 + X % 39) (hkept : ∃ Y : Int, kept = 1 + Y % (many - 1)) : R1 g L l s { s with heap := h', toks := tk } := by
  have h1 : 2 ≤ many ∧ many ≤ 40 := by omega
  refine ⟨h', tk, m, o, first, rich, many, kept, base, rnd, minus, t1, t2, t3, t4, t5, tb, rfl, fr_chain _ F ?_, news_sub N ?_, hd, hb, hr, h1, ?_⟩
  · intro p hp
    simp only [Pins1, List.mem_cons, List.not_mem_nil, or_false] at hp
    rcases hp with rfl | rfl | rfl | rfl | rfl | rfl | rfl <;> assumption
  · intro p hp
    rw [List.mem_singleton.mp hp]
    exact hm
  · obtain ⟨Y, rfl⟩ := hkept
    have h2 := Int.emod_nonneg Y (show many - 1 ≠ 0 by omega)
    have h3 := Int.emod_lt_of_pos Y (show 0 < many - 1 by omega)
    omega
theorem r_fmodX {prog : Program} {w : World} {A : Around} {E : Value → Shared → Prop} {s : Shared} {a b : Int} {t u : Tok} {Q : Value → Shared → Prop} (hb : 0 < b) (h : ∀ x t' k, 0 ≤ x → x < b → Q (.int x t') { s with toks := k }) :
    wpAny (model prog w) A (binaryOp .Mod (.int a t) (.int b u)) Q E s :=
  r_fmod hb fun t' k => h _ t' k (Int.emod_nonneg _ (by omega)) (Int.emod_lt_of_pos _ hb)
theorem new_up {h₀ h : Heap} {L l : Addr} {m : PySem.Str → Option Value} (F : Fr h₀ L h m) (hn : h.get? l = none) : h₀.get? l = none := by
  cases e : h₀.get? l with
  | none => rfl
  | some o => rw [F.keep _ _ e] at hn; cases hn
theorem IsBase.range {b : Int} (h : IsBase b) : 2 ≤ b ∧ b ≤ 16 := by unfold IsBase at h; omega
noncomputable def dueOf (dir : Nat) (base kept : Int) (row : List Int) : Int :=
  due dir (base ^ ((row.length : Int) - kept).toNat) (worth base row / base ^ ((row.length : Int) - kept).toNat) (worth base row % base ^ ((row.length : Int) - kept).toNat)
-- after the seventh statement (row, due, moved)
def Pins2 (l lr : Addr) (first kept due moved : Int) (rnd : PySem.Str) (minus : Bool) (t1 t3 t5 t6 t7 : Tok) : List (PySem.Str × Value) :=
  [(Str.ofString "script", .ref l), (Str.ofString "first", .int first t1), (Str.ofString "rnd", .str rnd t3), (Str.ofString "kept", .int kept t5), (Str.ofString "is_minus", .bool minus), (Str.ofString "row", .ref lr), (Str.ofString "due", .int due t6), (Str.ofString "moved", .int moved t7)]
def R2 (g : Heap) (L l : Addr) (first kept base : Int) (rnd : PySem.Str) (minus : Bool) (dir : Nat) (s s' : Shared) : Prop :=
  ∃ (h' : Heap) (tk : Nat) (u : PySem.Str → Option Value) (o : Obj) (lr : Addr) (n : Nat) (vs : List Value) (row : List Int) (moved : Int) (t1 t3 t5 t6 t7 tb : Tok),
    s' = { s with heap := h', toks := tk } ∧ Fr g L h' (chain (Pins2 l lr first kept (dueOf dir base kept row) moved rnd minus t1 t3 t5 t6 t7) u) ∧ News g L h' [(lr, listOf vs.toArray n), (L + 1, o)] ∧ o.data = .cell (some (.int base tb)) ∧
    IntsAre vs row ∧ InB base row ∧ row.length ≤ 40 ∧ kept < row.length ∧ ((dueOf dir base kept row = base ^ kept.toNat ∧ moved = 1) ∨ (dueOf dir base kept row ≠ base ^ kept.toNat ∧ moved = 0))
theorem R2.mk {g h' : Heap} {L l lr : Addr} {s : Shared} {m : PySem.Str → Option Value} {tk n : Nat} {news : List (Addr × Obj)} {o : Obj} {first kept base moved : Int} {rnd : PySem.Str} {minus : Bool} {dir : Nat} {vs : List Value} {row : List Int} {t1 t3 t5 t6 t7 tb : Tok}
    (F : Fr g L h' m) (N : News g L h' news) (hm : (L + 1, o) ∈ news) (hr : (lr, listOf vs.toArray n) ∈ news) (hd : o.data = .cell (some (.int base tb)))
    (e1 : m (Str.ofString "script") = some (.ref l)) (e2 : m (Str.ofString "first") = some (.int first t1)) (e4 : m (Str.ofString "rnd") = some (.str rnd t3)) (e6 : m (Str.ofString "kept") = some (.int kept t5)) (e7 : m (Str.ofString "is_minus") = some (.bool minus))
    (e8 : m (Str.ofString "row") = some (.ref lr)) (e9 : m (Str.ofString "due") = some (.int (dueOf dir base kept row) t6)) (eA : m (Str.ofString "moved") = some (.int moved t7))
    (hi : IntsAre vs row) (hb : InB base row) (hl : row.length ≤ 40) (hk : kept < row.length) (hmv : (dueOf dir base kept row = base ^ kept.toNat ∧ moved = 1) ∨ (dueOf dir base kept row ≠ base ^ kept.toNat ∧ moved = 0)) :
    R2 g L l first kept base rnd minus dir s { s with heap := h', toks := tk } := by
  refine ⟨h', tk, m, o, lr, n, vs, row, moved, t1, t3, t5, t6, t7, tb, rfl, fr_chain _ F ?_, news_sub N ?_, hd, hi, hb, hl, hk, hmv⟩
  · intro p hp
    simp only [Pins2, List.mem_cons, List.not_mem_nil, or_false] at hp
    rcases hp with rfl | rfl | rfl | rfl | rfl | rfl | rfl | rfl <;> assumption
  · intro p hp
    simp only [List.mem_cons, List.not_mem_nil, or_false] at hp
    rcases hp with rfl | rfl <;> assumption
-- after the eighth (text, away)
def Pins3 (l : Addr) (first kept due moved : Int) (res : List Int) (t1 t5 t6 t7 t8 t9 : Tok) : List (PySem.Str × Value) :=
  [(Str.ofString "script", .ref l), (Str.ofString "first", .int first t1), (Str.ofString "kept", .int kept t5), (Str.ofString "due", .int due t6), (Str.ofString "moved", .int moved t7), (Str.ofString "text", .str (txt res) t8), (Str.ofString "away", .int moved t9)]
def R3 (g : Heap) (L l : Addr) (first kept base : Int) (s s' : Shared) : Prop :=
  ∃ (h' : Heap) (tk : Nat) (u : PySem.Str → Option Value) (o : Obj) (due moved : Int) (res : List Int) (t1 t5 t6 t7 t8 t9 tb : Tok),
    s' = { s with heap := h', toks := tk } ∧ Fr g L h' (chain (Pins3 l first kept due moved res t1 t5 t6 t7 t8 t9) u) ∧ News g L h' [(L + 1, o)] ∧ o.data = .cell (some (.int base tb)) ∧
    InB base res ∧ res.length ≤ 40 ∧ (res.length : Int) = kept ∧ (0 ≤ moved ∧ moved ≤ 1) ∧ worth base res = due / base ^ moved.toNat
theorem away_eq {base D moved e : Int} {k : Nat} {res : List Int} (hmv : (D = base ^ k ∧ moved = 1) ∨ (D ≠ base ^ k ∧ moved = 0)) (h : RoundOk base k D res e) : e = moved := by
  obtain ⟨_, _, h⟩ := h
  rcases hmv with ⟨a, b⟩ | ⟨a, b⟩ <;> rcases h with ⟨c, d, _⟩ | ⟨c, d, _⟩
  · omega
  · exact absurd a c
  · exact absurd c a
  · omega
theorem worth_due {base D moved e : Int} {k : Nat} {res : List Int} (hb : 2 ≤ base) (hk : 1 ≤ k) (hmv : (D = base ^ k ∧ moved = 1) ∨ (D ≠ base ^ k ∧ moved = 0)) (h : RoundOk base k D res e) : worth base res = D / base ^ moved.toNat := by
  obtain ⟨_, _, h⟩ := h
  rcases hmv with ⟨a, rfl⟩ | ⟨a, rfl⟩ <;> rcases h with ⟨c, _, d⟩ | ⟨c, _, d⟩
  · rw [d, a]
    show base ^ (k - 1) = base ^ k / base ^ 1
    obtain ⟨j, rfl⟩ : ∃ j, k = j + 1 := ⟨k - 1, by omega⟩
    rw [Nat.add_sub_cancel, Int.pow_one, Int.pow_succ, Int.mul_ediv_cancel _ (by omega)]
  · exact absurd a c
  · exact absurd c a
  · rw [d]
    show D = D / base ^ 0
    rw [Int.pow_zero, Int.ediv_one]
theorem R3.mk {g h' : Heap} {L l : Addr} {s : Shared} {m : PySem.Str → Option Value} {tk : Nat} {news : List (Addr × Obj)} {o : Obj} {first kept base due moved e : Int} {res : List Int} {t1 t5 t6 t7 t8 t9 tb : Tok}
    (F : Fr g L h' m) (N : News g L h' news) (hm : (L + 1, o) ∈ news) (hd : o.data = .cell (some (.int base tb)))
    (e1 : m (Str.ofString "script") = some (.ref l)) (e2 : m (Str.ofString "first") = some (.int first t1)) (e3 : m (Str.ofString "kept") = some (.int kept t5)) (e4 : m (Str.ofString "due") = some (.int due t6)) (e5 : m (Str.ofString "moved") = some (.int moved t7))
    (e6 : m (Str.ofString "text") = some (.str (txt res) t8)) (e7 : m (Str.ofString "away") = some (.int e t9))
    (hb : 2 ≤ base ∧ base ≤ 16) (hk : 1 ≤ kept ∧ kept ≤ 40) (hmv : (due = base ^ kept.toNat ∧ moved = 1) ∨ (due ≠ base ^ kept.toNat ∧ moved = 0)) (hr : RoundOk base kept.toNat due res e) :
    R3 g L l first kept base s { s with heap := h', toks := tk } := by
  have he := away_eq hmv hr
  subst he
  have h1 := hr.1
  refine ⟨h', tk, m, o, due, e, res, t1, t5, t6, t7, t8, t9, tb, rfl, fr_chain _ F ?_, news_sub N ?_, hd, hr.2.1, by omega, by omega, by omega, worth_due hb.1 (by omega) hmv hr⟩
  · intro p hp
    simp only [Pins3, List.mem_cons, List.not_mem_nil, or_false] at hp
    rcases hp with rfl | rfl | rfl | rfl | rfl | rfl | rfl <;> assumption
  · intro p hp
    rw [List.mem_singleton.mp hp]
    exact hm
-- after the tenth (the row is right)
def Pins4 (l : Addr) (first : Int) (t1 : Tok) : List (PySem.Str × Value) := [(Str.ofString "script", .ref l), (Str.ofString "first", .int first t1)]
def R4 (g : Heap) (L l : Addr) (first base : Int) (s s' : Shared) : Prop :=
  ∃ (h' : Heap) (tk : Nat) (u : PySem.Str → Option Value) (o : Obj) (t1 tb : Tok),
    s' = { s with heap := h', toks := tk } ∧ Fr g L h' (chain (Pins4 l first t1) u) ∧ News g L h' [(L + 1, o)] ∧ o.data = .cell (some (.int base tb))
theorem R4.mk {g h' : Heap} {L l : Addr} {s : Shared} {m : PySem.Str → Option Value} {tk : Nat} {news : List (Addr × Obj)} {o : Obj} {first base : Int} {t1 tb : Tok}
    (F : Fr g L h' m) (N : News g L h' news) (hm : (L + 1, o) ∈ news) (hd : o.data = .cell (some (.int base tb)))
    (e1 : m (Str.ofString "script") = some (.ref l)) (e2 : m (Str.ofString "first") = some (.int first t1)) :
    R4 g L l first base s { s with heap := h', toks := tk } := by
  refine ⟨h', tk, m, o, t1, tb, rfl, fr_chain _ F ?_, news_sub N ?_, hd⟩
  · intro p hp
    simp only [Pins4, List.mem_cons, List.not_mem_nil, or_false] at hp
    rcases hp with rfl | rfl <;> assumption
  · intro p hp
    rw [List.mem_singleton.mp hp]
    exact hm
theorem pow30 {b : Int} (hb : 2 ≤ b ∧ b ≤ 16) : 0 < b ^ 30 ∧ b ^ 30 ≤ 2 ^ 120 := by
  refine ⟨Int.pow_pos (by omega), ?_⟩
  have h : b.toNat ^ 30 ≤ 16 ^ 30 := Nat.pow_le_pow_left (by omega) 30
  have e : b ^ 30 = ((b.toNat ^ 30 : Nat) : Int) := by
    rw [Int.natCast_pow, Int.toNat_of_nonneg (by omega)]
  rw [e]
  have e2 : (16 : Nat) ^ 30 = 2 ^ 120 := by decide +kernel
  rw [e2] at h
  exact_mod_cast h
theorem r_lenT {prog : Program} {w : World} {A : Around} {E : Value → Shared → Prop} {s : Shared} {ds : List Int} {t : Tok} {Q : Value → Shared → Prop} (hn : ds.length ≤ 1000) (h : ∀ t' k, Q (.int (ds.length : Int) t') { s with toks := k }) :
    wpAny (model prog w) A (call (.builtin "len") [.str (txt ds) t]) Q E s := by
  refine r_len (txt_eq ds) (by rw [List.length_map]; exact hn) ?_
  rw [List.length_map]; exact h _ _
theorem r_mulp {prog : Program} {w : World} {A : Around} {E : Value → Shared → Prop} {s : Shared} {x b : Int} {n : Nat} {t u : Tok} {Q : Value → Shared → Prop} (hb : 2 ≤ b ∧ b ≤ 16) (hn : n ≤ 100) (hz : KIN.Hid (x.natAbs < 2 ^ 200))
    (h : ∀ t' k, Q (.int (x * b ^ n) t') { s with toks := k }) : wpAny (model prog w) A (binaryOp .Mult (.int x t) (.int (b ^ n) u)) Q E s :=
  PyProof.Rows.mul_int (h _ _) (mulok (bits_lt hz.out) (intBits_pow_le (m := 5) (bits_lt (by omega)) n) (by omega))
theorem num_ok {x b : Int} (hb : 2 ≤ b ∧ b ≤ 16) (h0 : 0 ≤ x) (h1 : x < b ^ 30) : KIN.Hid ((1 + x).natAbs < 2 ^ 200) := by
  refine KIN.Hid.mk ?_
  have h2 := (pow30 hb).2
  have e1 : (2 : Int) ^ 120 = 1329227995784915872903807060280344576 := by decide +kernel
  have e2 : (2 : Nat) ^ 200 = 1606938044258990275541962092341162602522202993782792835301376 := by decide +kernel
  rw [e1] at h2
  rw [e2]
  omega
theorem forty : (2 : Int) ^ Int.toNat 40 = 1099511627776 := by decide

end WL
section W88
local macro_rules | `(tactic| walk_at "MineOf") => `(tactic| (
  refine' does_of' ?k6 ?k7 ?k9 ?kB ?_ ?c2 ?c3 ?c4 ?c5 ?c6
  (case k6 => k_is); (case k7 => k_is); (case k9 => intro s9 kIn9; first | exact BindsTo.of_eq rfl | exact binds_K kIn9 rfl (by k_is) rfl rfl rfl | fail "enter: no rule for these arguments"); (case c5 => decide); (case c6 => decide); (case kB => exact locs rfl); (case c2 => exact rfl); (case c3 => exact rfl); (case c4 => exact rfl)))
set_option hygiene false in
local macro_rules | `(tactic| walk_at "MineEnter") => `(tactic| (
  k_fill
  walk_at "MineOf"
  intro dp un gd cn cs L a ccd cl outer bs0 s g L' h' hdp hun hpre F' N' B' X' T' hck; (try dsimp only at hpre); (try dsimp only); (try k_fold)))
local macro_rules | `(tactic| walk_at "MineEnd") => `(tactic| ((try dsimp only); (try (k_unfold; try dsimp only)); (refine RetP.intro (Fr.keep (by k_asm)) ?_)))
set_option linter.unusedVariables false
local macro_rules | `(tactic| walk_at "MineSteps") => `(tactic| repeat' (first | (k_unfold; (try dsimp only)) | ((with_reducible show InvEndN _ _ _ _ _ _ _); kst_close) | walk1 | (dsimp only; walk1) | (k_end; wrow_close) | (leave1; walk_say "STEP leave1"; try dsimp only) | fail "no step"))
local macro_rules | `(tactic| walk_at "MineUse") => `(tactic| (
  (case k1 => k_asm); (case k2 => k_asm); (case k3 => k_asm); (case k4 => k_asm); (case k5 => k_asm); (case kK => first | exact rfl | assumption); (case kd => first | ((try dsimp only); omega) | decide +kernel); (case ku => first | ((try dsimp only); omega) | decide +kernel)))
local macro_rules | `(tactic| walk_at "MineStr") => `(tactic| first | with_reducible exact rfl | with_reducible exact txt_eq _ | with_reducible exact std_eq | with_reducible exact hex_eq | with_reducible exact zero_eq | with_reducible exact one_eq | with_reducible exact minus_eq | with_reducible assumption)
local macro_rules | `(tactic| walk_at "MineLen") => `(tactic| ((try simp only [sd_len, hx_len, List.length_map, List.length_take, List.length_drop, List.length_append, List.length_cons, List.length_nil, List.length_replicate]); omega))
local macro_rules | `(tactic| walk_at "MineItem") => `(tactic| (k_here; (with_reducible show wpAny _ _ (subscriptTail _ _ (Value.str _ _) (Value.int _ _)) _ _ _); (refine' r_item ?hx ?hn ?h0 ?h1 ?_ ?hs ?ht; (case hx => walk_at "MineStr"); (case hn => walk_at "MineLen"); (case h0 => walk_at "MineLen"); (case h1 => walk_at "MineLen"); (case hs => with_unfolding_all rfl); (case ht => intro _; with_unfolding_all rfl))))
local macro_rules | `(tactic| walk_at "MineSlice") => `(tactic| (k_here; (with_reducible rename Fr _ _ _ _ => F'); (with_reducible rename News _ _ _ _ => N'); first
  | ((with_reducible show wpAny _ _ (subscriptTail _ (Expr.Slice none (some _) none _) (Value.str _ _) _) _ _ _); (refine' r_slice_to (s := ⟨_, _, _, _, _⟩) ?hx ?hn F' N' ?h0 ?h2 ?_ ?hs ?ht; (case hx => walk_at "MineStr"); (case hn => walk_at "MineLen"); (case h0 => walk_at "MineLen"); (case h2 => walk_at "MineLen"); (case hs => with_unfolding_all rfl); (case ht => intro _; with_unfolding_all rfl)); intro h' t' k' F'' N''; (try k_sweep))
  | ((with_reducible show wpAny _ _ (subscriptTail _ (Expr.Slice (some _) (some _) none _) (Value.str _ _) _) _ _ _); (refine' r_slice (s := ⟨_, _, _, _, _⟩) ?hx ?hn F' N' ?h0 ?h1 ?h2 ?_ ?hs ?ht; (case hx => walk_at "MineStr"); (case hn => walk_at "MineLen"); (case h0 => walk_at "MineLen"); (case h1 => walk_at "MineLen"); (case h2 => walk_at "MineLen"); (case hs => with_unfolding_all rfl); (case ht => intro _; with_unfolding_all rfl)); intro h' t' k' F'' N''; (try k_sweep))))
local macro_rules | `(tactic| walk_at "subscriptTail Name Name str int") => `(tactic| walk_at "MineItem")
local macro_rules | `(tactic| walk_at "subscriptTail Name Constant str int") => `(tactic| walk_at "MineItem")
local macro_rules | `(tactic| walk_at "subscriptTail Name BinOp str int") => `(tactic| walk_at "MineItem")
local macro_rules | `(tactic| walk_at "subscriptTail Name Slice str ref") => `(tactic| walk_at "MineSlice")
local macro_rules | `(tactic| walk_at "subscriptTail Constant Slice str ref") => `(tactic| walk_at "MineSlice")
local macro_rules | `(tactic| walk_at "execs nil") => `(tactic| ((refine wpAny_execs_nil ?_); dsimp only))
local macro_rules | `(tactic| walk_at "MineTillWhile") => `(tactic| repeat' ((fail_if_success (with_reducible show wpAny _ _ (exec (Stmt.While _ _ _ _) _) _ _ _)); (first | (k_unfold; (try dsimp only)) | walk1 | (dsimp only; walk1))))
local macro_rules | `(tactic| walk_at "MineOfC") => `(tactic| (
  refine' does_ofC ?k6 ?k7 ?k9 ?kB ?kD ?_ ?c2 ?c3 ?c4 ?c6
  (case k6 => k_is); (case k7 => k_is); (case k9 => intro s9 kIn9; first | exact BindsTo.of_eq rfl | exact binds_K kIn9 rfl (by k_is) rfl rfl rfl | fail "enter: no rule for these arguments"); (case c6 => decide); (case kB => exact rfl); (case kD => decide +kernel); (case c2 => exact rfl); (case c3 => exact rfl); (case c4 => exact rfl)))
set_option hygiene false in
local macro_rules | `(tactic| walk_at "MineEnterC") => `(tactic| (
  k_fill
  walk_at "MineOfC"
  intro dp un gd cn cs L a ccd cl outer bs0 s g L' h' tk0 cells hdp hun hpre F' N' Y' B' X' T' hck; k_cells Y'; (try simp only [List.cons_append, List.nil_append] at N'); (try dsimp only at hpre); (try dsimp only); (try k_fold)))
local macro_rules | `(tactic| walk_at "MineTillComp") => `(tactic| repeat' ((fail_if_success (with_reducible show wpAny _ _ (eval (Expr.ListComp _ _ _ _) _) _ _ _)); (first | (k_unfold; (try dsimp only)) | walk1 | (dsimp only; walk1))))
-- the law
set_option hygiene false in
local macro_rules | `(tactic| walk_at "subscriptTail List cons") => `(tactic| (k_here; (with_reducible show wpAny _ _ (subscriptTail _ _ (Value.ref _) (Value.int _ _)) _ _ _); k_dflt (first
  | (refine' r_menuB ?k1 ?k2 ?k3 ?_ ?k4; (case k1 => is_list); (case k2 => exact Int.emod_nonneg _ (by decide)); (case k3 => exact Int.emod_lt_of_pos _ (by decide)); (case k4 => with_unfolding_all rfl); intro base tb hbase)
  | (refine' r_menuR ?k1 ?k2 ?k3 ?_ ?k4; (case k1 => is_list); (case k2 => exact Int.emod_nonneg _ (by decide)); (case k3 => exact Int.emod_lt_of_pos _ (by decide)); (case k4 => with_unfolding_all rfl); intro rnd tr hrnd))))
local macro_rules | `(tactic| walk_at "eval Call") => `(tactic| ((with_reducible show wpAny _ _ (eval (Expr.Call (Expr.Name _ _) _ _ _) _) _ _ _); k_dflt (refine Call_ ?_)))
local macro_rules | `(tactic| walk_at "binaryOp FloorDiv int int") => `(tactic| ((with_reducible show wpAny _ _ (binaryOp Operator.FloorDiv (Value.int _ _) (Value.int _ _)) _ _ _); (refine' r_fdiv ?zqhb ?zqhp ?_; (case zqhb => first | decide | omega | exact Int.pow_pos (by omega)); (case zqhp => first | exact PyProof.noPylong_small (by decide) | exact PyProof.noPylong_of_log2 (by decide +kernel) | exact noPy_pow (by assumption) (by omega) _)); intro t' k'))
local macro_rules | `(tactic| walk_at "binaryOp Mod int int") => `(tactic| ((with_reducible show wpAny _ _ (binaryOp Operator.Mod (Value.int _ _) (Value.int _ _)) _ _ _); (refine' r_fmod ?zqhb ?_; (case zqhb => first | decide | omega)); intro t' k'))
local macro_rules | `(tactic| walk_at "binaryOp Pow int int") => `(tactic| ((with_reducible show wpAny _ _ (binaryOp Operator.Pow (Value.int _ _) (Value.int _ _)) _ _ _); first
  | ((with_reducible show wpAny _ _ (binaryOp Operator.Pow (Value.int 10 _) (Value.int 5 _)) _ _ _); (refine' r_pow (c := 100000) ?h0 ?h1 ?hm ?hc ?_; (case h0 => decide); (case h1 => decide); (case hm => decide); (case hc => decide)); intro t' k')
  | ((with_reducible show wpAny _ _ (binaryOp Operator.Pow (Value.int 10 _) (Value.int 6 _)) _ _ _); (refine' r_pow (c := 1000000) ?h0 ?h1 ?hm ?hc ?_; (case h0 => decide); (case h1 => decide); (case hm => decide); (case hc => decide)); intro t' k')
  | ((with_reducible show wpAny _ _ (binaryOp Operator.Pow (Value.int 2 _) (Value.int 40 _)) _ _ _); (refine' r_pow (c := 1099511627776) ?h0 ?h1 ?hm ?hc ?_; (case h0 => decide); (case h1 => decide); (case hm => decide); (case hc => decide)); intro t' k')
  | (refine' r_pow ?h0 ?h1 ?hm ?hc ?_; (case h0 => omega); (case h1 => omega); (case hm => omega); (case hc => exact rfl); intro t' k')))
set_option hygiene false in
local macro_rules | `(tactic| walk_at "call ref") => `(tactic| (k_here; (with_reducible show wpAny _ _ (call (Value.ref 52) _) _ _ _); k_dflt (refine' does_use (does_mixed _ _ _ _ _ _ _ _ _ hI hlay ?zqhb) ?k1 ?k2 ?k3 ?k4 ?k5 ?kK ?kd ?ku ?zqkp ?_; (case zqkp => is_list); (case zqhb => decide); walk_at "MineUse"); intro r9 h9 tk9 S9 P9 F9 N9; obtain ⟨t9, rfl⟩ := P9; (try dsimp only); (try k_sweep); (try k_fold)))
set_option hygiene false in
local macro_rules | `(tactic| walk_at "call ref") => `(tactic| (k_here; (with_reducible show wpAny _ _ (call (Value.ref 59) _) _ _ _); k_dflt (refine' does_use (does_row _ _ _ _ _ _ _ _ _ _ ?zqhb ?zqhm) ?k1 ?k2 ?k3 ?k4 ?k5 ?kK ?kd ?ku ?zqkp ?_; (case zqkp => trivial); (case zqhb => assumption); (case zqhm => assumption); walk_at "MineUse"); intro r9 h9 tk9 S9 P9 F9 N9; obtain ⟨lr, nr, vsr, row, rfl, hnew, hget, hir, hlr, hdr⟩ := P9; (have hnew' := new_up (by k_asm) hnew); (have N8 := News.more F9 N9 hget (fun _ _ e => nomatch e) hnew'); clear N9; (try dsimp only); (try k_sweep); (try k_fold)))
set_option hygiene false in
local macro_rules | `(tactic| walk_at "call ref") => `(tactic| (k_here; (with_reducible show wpAny _ _ (call (Value.ref 78) _) _ _ _); k_dflt (refine' does_use (does_rounded _ _ _ _ _ _ _ _ _ _ _ 0 _ _ _ dir ?zqhi ?zqhb ?zqhl ?zqhk ?zqhr) ?k1 ?k2 ?k3 ?k4 ?k5 ?kK ?kd ?ku ?zqkp ?_; (case zqkp => is_list); (case zqhi => assumption); (case zqhb => assumption); (case zqhl => omega); (case zqhk => omega); (case zqhr => assumption); walk_at "MineUse"); intro r9 h9 tk9 S9 P9 F9 N9; (k_dflt (change ∃ t, r9 = Value.int (dueOf dir base kept row) t at P9)); obtain ⟨t9, rfl⟩ := P9; (try dsimp only); (try k_sweep); (try k_fold)))
set_option hygiene false in
local macro_rules | `(tactic| walk_at "call ref") => `(tactic| (k_here; (with_reducible show wpAny _ _ (call (Value.ref 71) _) _ _ _); k_dflt (refine' does_use (does_text _ _ _ _ _ _ _ ?zqhi ?zqhl ?zqhd) ?k1 ?k2 ?k3 ?k4 ?k5 ?kK ?kd ?ku ?zqkp ?_; (case zqkp => is_list); (case zqhi => assumption); (case zqhl => omega); (case zqhd => (intro d hm; have := hrow d hm; omega)); walk_at "MineUse"); intro r9 h9 tk9 S9 P9 F9 N9; obtain ⟨t9, rfl⟩ := P9; (try dsimp only); (try k_sweep); (try k_fold)))
set_option hygiene false in
local macro_rules | `(tactic| walk_at "call ref") => `(tactic| (k_here; (with_reducible show wpAny _ _ (call (Value.ref 45) _) _ _ _); k_dflt (refine' does_use (does_round _ _ _ _ row _ _ _ _ _ _ _ _ _ _ dir ?zqhb ?zqhl ?zqhk ?zqhd ?zqhs ?zqhr) ?k1 ?k2 ?k3 ?k4 ?k5 ?kK ?kd ?ku ?zqkp ?_; (case zqkp => trivial); (case zqhb => exact hbase); (case zqhl => omega); (case zqhk => omega); (case zqhd => exact hrow); (case zqhs => first | exact Or.inl ⟨by assumption, rfl⟩ | exact Or.inr ⟨by assumption, rfl⟩); (case zqhr => assumption); walk_at "MineUse"); intro r9 h9 tk9 S9 P9 F9 N9; obtain ⟨T9, res, away, ta9, tb9, rfl, hnew, hget, hok⟩ := P9; (k_dflt (change RoundOk base kept.toNat (dueOf dir base kept row) res away at hok)); (have hnew' := new_up (by k_asm) hnew); (have N8 := News.more F9 N9 hget (fun _ _ e => nomatch e) hnew'); clear N9; (try dsimp only); (try k_sweep); (try k_fold)))
set_option hygiene false in
local macro_rules | `(tactic| walk_at "call ref") => `(tactic| (k_here; (with_reducible show wpAny _ _ (call (Value.ref 66) _) _ _ _); k_dflt (refine' does_use (does_worth _ _ _ _ _ _ res _ _ ?zqhi ?zqhb ?zqhl) ?k1 ?k2 ?k3 ?k4 ?k5 ?kK ?kd ?ku ?zqkp ?_; (case zqkp => (try dsimp only); is_list); (case zqhi => exact ints_hex hbase hres (by assumption)); (case zqhb => assumption); (case zqhl => omega); walk_at "MineUse"); intro r9 h9 tk9 S9 P9 F9 N9; obtain ⟨t9, rfl⟩ := P9; (try dsimp only); (try k_sweep); (try k_fold)))
set_option hygiene false in
local macro_rules | `(tactic| walk_at "call builtin:len") => `(tactic| ((with_reducible show wpAny _ _ (call (Value.builtin _) [Value.str (txt _) _]) _ _ _); (refine' r_lenT ?zqhn ?_; (case zqhn => omega)); intro t' k'))
set_option hygiene false in
local macro_rules | `(tactic| walk_at "eval ListComp") => `(tactic| (k_here; (with_reducible show wpAny _ _ (eval (Expr.ListComp (Expr.Compare _ _ _ _) _ _ _) _) _ _ _); (k_dflt ((refine' comp_text (d := dIn (Txt.slice (Str.ofString "0123456789abcdef") none (some base))) ?zqhF ?zqhh ?zqhclos ?zqhcell ?zqhkind ?zqhnames ?zqhx ?_ ?zqhs); (case zqhF => k_asm); (case zqhh => rfl); (case zqhclos => with_unfolding_all rfl); (case zqhcell => decide); (case zqhkind => rfl); (case zqhnames => decide); (case zqhx => rfl); (case zqhs => intro _; with_unfolding_all rfl); (refine' nameX_L ?zqzF ?zqzv ?_ ?zqza ?zqzb); (case zqzF => k_asm); (case zqza => rfl); (case zqzb => rfl); (case zqzv => rfl); (refine ⟨_, _, _, rfl, (by rw [txt_len, sizeLine_eq]; omega), (by k_asm), (by k_asm), ?zqelt, ?_⟩); (case zqelt => (intro C' a' u' s' m' E' hCs' ha' hn' hm' hk'; (refine' elt_inslice ?zqeK ?zqeX hn' hm' ?zqeD ?zqeO ha' ?zqeL); (case zqeO => (intro k9 Q9 h9; refine' wpAny_Name (wpAny_loadName_cell ?zqf1 ?zqf2 ?zqf3 ⟨_, hk' _ _ (News.get ?zqf4 ?zqf5), ?zqf6⟩ h9) ?zqf7; (case zqf1 => rfl); (case zqf2 => rfl); (case zqf3 => rfl); (case zqf4 => k_asm); (case zqf5 => k_mem); (case zqf6 => k_asm); (case zqf7 => decide))); (case zqeK => rfl); (case zqeX => rfl); (case zqeD => decide); (case zqeL => decide))))); (intro D' ys' h' tk' F' N' hD' hL' hP' hC'); (try k_sweep)))
set_option hygiene false in
local macro_rules | `(tactic| walk_at "eval ListComp") => `(tactic| (k_here; (with_reducible show wpAny _ _ (eval (Expr.ListComp (Expr.Call _ _ _ _) _ _ _) _) _ _ _); (k_dflt ((refine' comp_text (d := dIdx (Str.ofString "0123456789abcdef")) ?zqhF ?zqhh ?zqhclos ?zqhcell ?zqhkind ?zqhnames ?zqhx ?_ ?zqhs); (case zqhF => k_asm); (case zqhh => rfl); (case zqhclos => with_unfolding_all rfl); (case zqhcell => decide); (case zqhkind => rfl); (case zqhnames => decide); (case zqhx => rfl); (case zqhs => intro _; with_unfolding_all rfl); (refine' nameX_L ?zqzF ?zqzv ?_ ?zqza ?zqzb); (case zqzF => k_asm); (case zqza => rfl); (case zqzb => rfl); (case zqzv => rfl); (refine ⟨_, _, _, rfl, (by rw [txt_len, sizeLine_eq]; omega), (by k_asm), (by k_asm), ?zqelt, ?_⟩); (case zqelt => (intro C' a' u' s' m' E' hCs' ha' hn' hm' hk'; (refine' elt_index ?zqeA ?zqeO ?zqeK ?zqeX hn' hm' ?zqeD (hex_nonneg hbase hres ha') ⟨_, ?zqeH⟩); (case zqeO => (intro Q9 h9; exact wpAny_Constant_str (h9 _ _ ⟨_, _, rfl, fun _ _ e => e⟩ rfl))); (case zqeA => rfl); (case zqeK => rfl); (case zqeX => rfl); (case zqeD => decide); (case zqeH => rfl))))); (intro D' ys' h' tk' F' N' hD' hL' hP' hC'); (try k_sweep)))
set_option hygiene false in
local macro_rules | `(tactic| walk_at "binaryOp Mod int int") => `(tactic| ((with_reducible show wpAny _ _ (binaryOp Operator.Mod (Value.int _ _) (Value.int (_ ^ Int.toNat 30) _)) _ _ _); k_dflt ((refine' r_fmodX (pow30 hb1).1 ?_); intro x9 t9 k9 hx0 hx1; (have hzh := num_ok hb1 hx0 hx1); clear hx1)))
local macro_rules | `(tactic| walk_at "binaryOp Mult int int") => `(tactic| ((with_reducible show wpAny _ _ (binaryOp Operator.Mult (Value.int _ _) (Value.int (_ ^ Int.toNat _) _)) _ _ _); (refine' r_mulp ?hb ?hn ?hz ?_; (case hb => assumption); (case hn => omega); (case hz => assumption)); intro t' k'))
set_option hygiene false in
local macro_rules | `(tactic| walk_at "call ref") => `(tactic| (k_here; (with_reducible show wpAny _ _ (call (Value.ref 37) [_, _]) _ _ _); k_dflt (refine' does_use (does_num0 _ _ _ _ _ _ _ ?zqhb) ?k1 ?k2 ?k3 ?k4 ?k5 ?kK ?kd ?ku ?kp ?_; (case kp => trivial); (case zqhb => assumption); walk_at "MineUse"); intro r9 h9 tk9 S9 P9 F9 N9; obtain ⟨t9, rfl⟩ := P9; (try dsimp only); (try k_sweep); (try k_fold)))
set_option hygiene false in
local macro_rules | `(tactic| walk_at "call ref") => `(tactic| (k_here; (with_reducible show wpAny _ _ (call (Value.ref 21) _) _ _ _); k_dflt (refine' does_use (does_radix _ _ _ _ _ _ _ _ _ _ _ _ ?zqhb ?zqhx ?zqhd ?zqhz) ?k1 ?k2 ?k3 ?k4 ?k5 ?kK ?kd ?ku ?kp ?_; (case kp => trivial); (case zqhb => assumption); (case zqhx => decide); (case zqhd => omega); (case zqhz => exact hzh.out); walk_at "MineUse"); intro r9 h9 tk9 S9 P9 F9 N9; rw [forty] at P9; obtain ⟨t9, rfl⟩ := P9; (try dsimp only); (try k_sweep); (try k_fold)))
set_option hygiene false in
local macro_rules | `(tactic| walk_at "call ref") => `(tactic| (k_here; (with_reducible show wpAny _ _ (call (Value.ref 83) _) _ _ _); k_dflt (refine' does_use (does_right _ _ _ _ _ _ _ _ ?zqhb ?zqhn ?zqhz) ?k1 ?k2 ?k3 ?k4 ?k5 ?kK ?kd ?ku ?kp ?_; (case kp => trivial); (case zqhb => exact hbase); (case zqhn => omega); (case zqhz => exact hzh.out); walk_at "MineUse"); intro r9 h9 tk9 S9 P9 F9 N9; subst P9; (try dsimp only); (try k_sweep); (try k_fold)))
local macro_rules | `(tactic| walk_at "LawSteps") => `(tactic| repeat' (first | (k_unfold; (try dsimp only)) | walk1 | (dsimp only; walk1) | (k_end; wrow_close) | (leave1; walk_say "STEP leave1"; try dsimp only) | fail "no step"))
theorem law_holds : PySem.Challenge.rw_ah5001_01.Holds := hd (by
  w_top off
  k_with_none
  k_go0
  with_reducible rename IntsAre _ _ => hI
  with_reducible rename PyData.layable0 _ = true => hlay
  with_reducible rename Shared => s1
  rename_i ns hs0 hlay0 hr0 hl20 wA wB l vs wC hL ra w1 r0 hr1 hc1 hc2 K0 hD h1 tk1 F0 o0 ho0 N0 X0
  all_goals try k_fold
  dsimp only
  refine cut_at 4 (R1 s1.heap s1.heap.objs.size l s1) ?_ ?_
  focus
    dsimp only [List.take]
    walk_at "LawSteps"
    with_reducible rename Fr _ _ _ _ => Fz
    with_reducible rename News _ _ _ _ => Nz
    exact R1.mk (X := mixed ns 0 / 20) Fz Nz (by k_mem) (by assumption) (by with_unfolding_all rfl) (by with_unfolding_all rfl) (by with_unfolding_all rfl) (by with_unfolding_all rfl) (by with_unfolding_all rfl) (by with_unfolding_all rfl) (by with_unfolding_all rfl) hbase hrnd rfl ⟨_, rfl⟩
  rintro s' ⟨h', tk', u, o', first, rich, many, kept, base, rnd, minus, t1, t2, t3, t4, t5, tb, rfl, F', N', d', hbase, hrnd, hmany, hkept⟩
  obtain ⟨dir, hdir⟩ := dir_of hrnd minus
  have hb1 := hbase.range
  dsimp only [List.drop]
  dsimp only [chain, Pins1] at F'
  refine cut_at 3 (R2 s1.heap s1.heap.objs.size l first kept base rnd minus dir s1) ?_ ?_
  focus
    dsimp only [List.take]
    walk_at "LawSteps"
    all_goals (with_reducible rename Fr _ _ _ _ => Fz; with_reducible rename News _ _ _ _ => Nz)
    · exact R2.mk Fz Nz (by k_mem) (by k_mem) (by assumption) (by with_unfolding_all rfl) (by with_unfolding_all rfl) (by with_unfolding_all rfl) (by with_unfolding_all rfl) (by with_unfolding_all rfl) (by with_unfolding_all rfl) (by with_unfolding_all rfl) (by with_unfolding_all rfl) (by assumption) (by assumption) (by omega) (by omega) (Or.inl ⟨by assumption, rfl⟩)
    · exact R2.mk Fz Nz (by k_mem) (by k_mem) (by assumption) (by with_unfolding_all rfl) (by with_unfolding_all rfl) (by with_unfolding_all rfl) (by with_unfolding_all rfl) (by with_unfolding_all rfl) (by with_unfolding_all rfl) (by with_unfolding_all rfl) (by with_unfolding_all rfl) (by assumption) (by assumption) (by omega) (by omega) (Or.inr ⟨by assumption, rfl⟩)
  clear F' N' d' h' tk' u o' t1 t2 t3 t4 t5 tb
  have hk1 := hkept.1
  clear hkept hmany many rich
  rintro s' ⟨h', tk', u, o', lr, nr, vsr, row, moved, t1, t3, t5, t6, t7, tb, rfl, F', N', d', hir, hrow, hlr, hkr, hmv⟩
  dsimp only [List.drop]
  dsimp only [chain, Pins2] at F'
  refine cut_at 1 (R3 s1.heap s1.heap.objs.size l first kept base s1) ?_ ?_
  focus
    dsimp only [List.take]
    walk_at "LawSteps"
    all_goals (with_reducible rename Fr _ _ _ _ => Fz; with_reducible rename News _ _ _ _ => Nz)
    all_goals exact R3.mk Fz Nz (by k_mem) (by assumption) (by with_unfolding_all rfl) (by with_unfolding_all rfl) (by with_unfolding_all rfl) (by with_unfolding_all rfl) (by with_unfolding_all rfl) (by with_unfolding_all rfl) (by with_unfolding_all rfl) hb1 (by omega) hmv hok
  have hk40 : kept ≤ 40 := by omega
  clear F' N' d' h' tk' u o' t1 t3 t5 t6 t7 tb hmv hkr hlr hrow hir row vsr nr lr moved
  clear hdir hrnd dir rnd minus
  rintro s' ⟨h', tk', u, o', due, moved, res, t1, t5, t6, t7, t8, t9, tb, rfl, F', N', d', hres, hlr, hlk, hmv, hwd⟩
  dsimp only [List.drop]
  dsimp only [chain, Pins3] at F'
  refine cut_at 2 (R4 s1.heap s1.heap.objs.size l first base s1) ?_ ?_
  focus
    dsimp only [List.take]
    walk_at "LawSteps"
    · with_reducible rename Fr _ _ _ _ => Fz
      with_reducible rename News _ _ _ _ => Nz
      exact R4.mk Fz Nz (by k_mem) (by assumption) (by with_unfolding_all rfl) (by with_unfolding_all rfl)
    · exfalso
      have h5 := (by with_reducible assumption : (List.all _ _) = false)
      rw [all_known hbase hres] at h5
      cases h5
  clear F' N' d' h' tk' u o' t1 t5 t6 t7 t8 t9 tb hwd hmv hlk hlr hres res moved due
  clear hk1 hk40 kept
  rintro s' ⟨h', tk', u, o', t1, tb, rfl, F', N', d'⟩
  dsimp only [List.drop]
  dsimp only [chain, Pins4] at F'
  walk_at "LawSteps")

end W88
end Mine
set_option maxRecDepth 100000 in
theorem PySem.Challenge.cw_ah5001_01_holds : PySem.Challenge.rw_ah5001_01.Holds := by
  exact Mine.law_holds
