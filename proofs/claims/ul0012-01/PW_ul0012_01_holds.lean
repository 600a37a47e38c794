import PyProof.Rows.All
import Wide.All
import OpenK.AllK
import Wide.FinOn
import PySem.Challenge.RW_ul0012_01
set_option Elab.async false
set_option maxRecDepth 100000
set_option maxHeartbeats 8000000
set_option rowWalk.seconds 0
set_option linter.all false
section -- Hd
open PySem PySem.W PyProof.Rows
namespace Mine
-- With this option open_top does not find its road in pieces (there it asks a class for an answer of
-- two steps) and proves the top at once, as one evaluation: 3 MB compiled, in pieces 14.4 MB.
set_option synthInstance.maxSize 1 in
open_top hd for PySem.Challenge.rw_ul0012_01
end Mine
end
section -- Text
open PySem PySem.Spec PySem.Calls PySem.W PyProof.Rows PyProof Builtin Builtin.Str
namespace Mine
/-- a text by its codes -/
noncomputable def tx (l : List Nat) : Str := ⟨l.toArray⟩
theorem tx_cps (x : Str) : x = tx x.cps.toList := by cases x; rfl
theorem tx_inj {a b : List Nat} (h : tx a = tx b) : a = b := by
  have := congrArg (fun x : Str => x.cps.toList) h
  simpa [tx] using this
theorem tx_len (l : List Nat) : (tx l).length = l.length := by simp [tx, Str.length]
theorem tx_add (a b : List Nat) : tx a ++ tx b = tx (a ++ b) := by
  show Str.append _ _ = _
  simp [tx, Str.append]
theorem tx_slice {l : List Nat} {i j : Int} (h : 0 ≤ i ∧ i ≤ j ∧ j ≤ l.length) : Txt.slice (tx l) (some i) (some j) = tx ((l.drop i.toNat).take (j - i).toNat) := by
  have := slice_closes (x := tx l) (i := i) (j := j) (by simpa [tx] using h)
  simpa [tx] using eq_of_beq this
theorem tx_slice_to {l : List Nat} {j : Int} (h : 0 ≤ j ∧ j ≤ l.length) : Txt.slice (tx l) none (some j) = tx (l.take j.toNat) := by
  have := slice_closes_to (x := tx l) (j := j) (by simpa [tx] using h)
  simpa [tx] using eq_of_beq this
theorem tx_slice_from {l : List Nat} {i : Int} (h0 : 0 ≤ i) (h1 : i ≤ l.length) : Txt.slice (tx l) (some i) none = tx (l.drop i.toNat) := by
  have := slice_from_eq (x := tx l) (i := i) (b := l.length) h0 (by simpa [tx, Str.length] using h1) (by simp [tx, Str.length])
  rw [this]
  simp only [tx]
  congr 2
  apply List.take_of_length_le
  rw [List.length_drop]; simp; omega
theorem tx_item {l : List Nat} {i : Int} {c : Nat} (h0 : 0 ≤ i) (h : l[i.toNat]? = some c) : Txt.item (tx l) i = tx [c] := by
  obtain ⟨hl, he⟩ := List.getElem?_eq_some_iff.mp h
  have hi : seqIndex? i (tx l).length = some i.toNat := by
    unfold seqIndex?
    rw [tx_len, if_neg (show ¬ i < 0 by omega)]
    have e : (decide (0 ≤ i) && decide (i < (l.length : Int))) = true := by
      rw [decide_eq_true h0, decide_eq_true (show i < (l.length : Int) by omega)]; rfl
    rw [if_pos e]
  unfold Txt.item Txt.charAt
  rw [hi]
  simp [tx, h]
theorem tx_beq (a b : List Nat) : (tx a == tx b) = (a == b) := by
  by_cases h : a = b
  · subst h; simp
  · have h2 : tx a ≠ tx b := fun e => h (tx_inj e)
    rw [beq_eq_false_iff_ne.mpr h2, beq_eq_false_iff_ne.mpr h]
theorem ofs_quote : Str.ofString "\"" = tx [34] := by decide +kernel
theorem ofs_x : Str.ofString "x" = tx [120] := by decide +kernel
theorem ofs_257 : Str.ofString "257" = tx [50, 53, 55] := by decide +kernel
theorem ofs_sq : Str.ofString " \"" = tx [32, 34] := by decide +kernel
theorem ofs_257q : Str.ofString "257 \"" = tx [50, 53, 55, 32, 34] := by decide +kernel
theorem ofs_nil : Str.ofString "" = tx [] := by decide +kernel
theorem ofs_blank : Str.ofString " " = tx [32] := by decide +kernel
/-- what parse257 reads behind the mark -/
noncomputable def p257 : List Nat → List Nat
  | [] => []
  | [c] => if c = 34 then [] else [c]
  | c :: d :: r => if c = 34 then (if d = 34 then 34 :: p257 r else []) else c :: p257 (d :: r)
theorem p257_step {l : List Nat} {c : Nat} (r : List Nat) (h : l = c :: r) (hc : c ≠ 34) : p257 l = c :: p257 r := by
  subst h
  cases r with
  | nil => simp [p257, hc]
  | cons d r => rw [p257, if_neg hc]
theorem p257_two {l : List Nat} (r : List Nat) (h : l = 34 :: 34 :: r) : p257 l = 34 :: p257 r := by
  subst h; rw [p257, if_pos rfl, if_pos rfl]
theorem p257_end {l : List Nat} (r : List Nat) (h : l = 34 :: r) (hr : r.head? ≠ some 34) : p257 l = [] := by
  subst h
  cases r with
  | nil => rfl
  | cons d r =>
    simp only [List.head?_cons, ne_eq, Option.some.injEq] at hr
    rw [p257, if_pos rfl, if_neg hr]
/-- the run of marks that the law asks with -/
noncomputable def qx (q : Nat) : List Nat := List.replicate q 34 ++ [120]
theorem p257_qx : ∀ q : Nat, p257 (qx q) = List.replicate (q / 2) 34 ++ (if q % 2 = 0 then [120] else [])
  | 0 => rfl
  | 1 => rfl
  | q + 2 => by
    have e : qx (q + 2) = 34 :: 34 :: qx q := by simp [qx, List.replicate_succ]
    rw [p257_two _ e, p257_qx q, Nat.add_div_right q (by decide), Nat.add_mod_right, List.replicate_succ]; rfl
/-- how often the x is kept -/
noncomputable def keptF : Nat → Nat → Int
  | 0, _ => 0
  | n + 1, q => if q % 2 = 0 then 1 + keptF n (q / 2) else 0
end Mine
namespace Mine
theorem p257_len : ∀ l : List Nat, (p257 l).length ≤ l.length
  | [] => by simp [p257]
  | [c] => by by_cases h : c = 34 <;> simp [p257, h]
  | c :: d :: r => by
    have h1 := p257_len r
    have h2 := p257_len (d :: r)
    by_cases h : c = 34
    · by_cases k : d = 34
      · simp only [p257, h, k, if_true, List.length_cons]; omega
      · simp [p257, h, k]
    · simp only [p257, h, if_false, List.length_cons] at h2 ⊢; omega
section
variable {prog : Program} {w : World} {A : Around} {E : Value → Shared → Prop} {s : Shared}
theorem add_txS {x y : Str} {a b : List Nat} {t u : Tok} {Q : Value → Shared → Prop} (ea : x = tx a) (eb : y = tx b) (hsz : a.length + b.length ≤ 10000) (h : ∀ t' k, Q (.str (tx (a ++ b)) t') { s with toks := k }) :
    wpAny (model prog w) A (binaryOp .Add (.str x t) (.str y u)) Q E s := by
  subst ea eb
  refine P.add_str ?_
  by_cases h1 : (tx a).length == 0
  · rw [if_pos h1]
    have : a = [] := List.eq_nil_of_length_eq_zero (by rw [tx_len] at h1; simpa using h1)
    subst this
    exact h u s.toks
  · rw [if_neg h1]
    by_cases h2 : (tx b).length == 0
    · rw [if_pos h2]
      have : b = [] := List.eq_nil_of_length_eq_zero (by rw [tx_len] at h2; simpa using h2)
      subst this
      have := h t s.toks
      rw [List.append_nil] at this
      exact this
    · rw [if_neg h2, tx_add]
      exact ⟨by rw [tx_len, List.length_append, PySem.sizeLine_eq]; omega, h s.toks (s.toks + 1)⟩
end
end Mine
namespace Mine
theorem tx_foldl : ∀ (n : Nat) (a : List Nat) (acc : Array Nat), (List.replicate n a.toArray).foldl (· ++ ·) acc = acc ++ (List.replicate n a).flatten.toArray
  | 0, a, acc => by simp
  | n + 1, a, acc => by
    rw [List.replicate_succ, List.foldl_cons, tx_foldl n a, List.replicate_succ, List.flatten_cons]
    apply Array.ext'; simp
theorem tx_mul1 (c n : Nat) : Txt.mul (tx [c]) (n : Int) = tx (List.replicate n c) := by
  unfold Txt.mul
  by_cases h : (n : Int) < 1
  · rw [if_pos h]
    have : n = 0 := by omega
    subst this; rfl
  · rw [if_neg h]
    by_cases h1 : ((n : Int) == 1 || (tx [c]).length == 0) = true
    · rw [if_pos h1]
      have : n = 1 := by
        rw [tx_len] at h1
        simp at h1
        omega
      subst this; rfl
    · rw [if_neg h1]
      show (⟨(List.replicate (n : Int).toNat [c].toArray).foldl (· ++ ·) #[]⟩ : Str) = _
      rw [Int.toNat_natCast, tx_foldl]
      have e : (List.replicate n [c]).flatten = List.replicate n c := by
        clear h h1
        induction n with
        | zero => rfl
        | succ n ih => rw [List.replicate_succ, List.flatten_cons, ih, List.replicate_succ]; rfl
      rw [e]; simp [tx]
theorem qx_len (q : Nat) : (qx q).length = q + 1 := by simp [qx]
theorem slice_neg1 {n : Nat} (hn : 0 < n) : strSliceIndices (some (-1)) none 1 n = strSliceIndices (some ((n : Int) - 1)) none 1 n := by
  unfold strSliceIndices
  have h1 : ¬ ((n : Int) - 1 < 0) := by omega
  have h2 : ((-1 : Int) < 0) := by decide
  simp only [h1, h2, if_true, if_false]
  have h3 : (-1 : Int) + n = (n : Int) - 1 := by omega
  rw [h3]
/-- the last sign of a run -/
theorem tx_last (l : List Nat) : Txt.slice (tx l) (some (-1)) none = tx (l.drop (l.length - 1)) := by
  by_cases h : l = []
  · subst h; decide +kernel
  · have hl : 0 < l.length := List.length_pos_iff.mpr h
    have e : Txt.slice (tx l) (some (-1)) none = Txt.slice (tx l) (some ((l.length : Int) - 1)) none := by
      unfold Txt.slice
      rw [tx_len, slice_neg1 hl]
    rw [e, tx_slice_from (by omega) (by omega)]
    congr 2; omega
theorem last_even (n : Nat) : (List.replicate n 34 ++ [120]).drop ((List.replicate n 34 ++ [120]).length - 1) = [120] := by
  have : (List.replicate n 34 ++ [120]).length - 1 = (List.replicate n 34).length := by simp
  rw [this, List.drop_left']; rfl
theorem last_odd (n : Nat) : (List.replicate n 34).drop ((List.replicate n 34).length - 1) ≠ [120] := by
  rw [List.drop_replicate]
  intro h
  have : (120 : Nat) ∈ List.replicate (n - ((List.replicate n 34).length - 1)) 34 := by rw [h]; simp
  have := List.eq_of_mem_replicate this
  omega
end Mine
end
section -- Gen
open PySem PySem.Spec PySem.Calls PySem.W PyProof.Rows
namespace Mine
abbrev nPos : Str := Str.ofString "pos"
abbrev nCh : Str := Str.ofString "ch"
abbrev nEsc : Str := Str.ofString "escape"
section
variable {prog : Program} {w : World} {A : Around} {p1 p2 p3 p4 p5 p6 p7 p8 p9 p10 p11 pa pb pt : Pos} {k3 k7 kt : Nat} {X1 X2 : List Stmt}
/-- what a turn of the generator hands out -/
noncomputable def gProto (C : Addr) (fp wr : List Addr) (l : List Nat) : Protocol := fun m s₀ v s kap =>
  (∃ c q t u, l[l.length - 1 - m]? = some c ∧ v = .ref q ∧ s.heap.IsTuple q #[.int ((l.length - 1 - m : Nat) : Int) t, .str (tx [c]) u]) ∧ GenSince C wr s₀ s ∧ (∀ b ∈ C :: fp, ∃ o, s.heap.get? b = some o) ∧
    ∀ s'' : Shared, (∀ b ∈ C :: fp, ∀ o, s.heap.get? b = some o → s''.heap.get? b = some o) → kap (.send .none) s''
abbrev gEnd (C : Addr) (wr : List Addr) : GenEnd := fun n s₀ r s₁ => r = .ok (.ret .none) ∧ (n = 0 ∧ GenSince C wr s₀ s₁)
abbrev gBody (p1 p2 p3 p4 p5 p6 p7 p8 p9 p10 p11 : Pos) (k3 k7 : Nat) (X1 X2 : List Stmt) : List Stmt :=
  [.If (.Name nEsc p1) X1 [.If (.Compare (.Name nCh p2) [.Eq] [.Constant (.str (Str.ofString "\\")) k3 p3] p4) X2 [.Expr (.Yield (some (.Tuple [.Name nPos p5, .Name nCh p6] k7 p7)) p8) p9] p10] p11]
abbrev gTarget (pa pb pt : Pos) (kt : Nat) : Expr := .Tuple [.Name nPos pa, .Name nCh pb] kt pt
noncomputable def gPt (l : List Nat) (i : Nat) (vals : Array Value) : Prop := ∃ c t u, l[i]? = some c ∧ vals = #[.int i t, .str (tx [c]) u]

theorem seg_gLoop {e : Addr} {fp wr : List Addr} {l : List Nat} {St : Nat → Heap → Prop} {Mid : Nat → Addr → Heap → Prop} {env : Env} {fs : List Frame}
    (hh : ∀ c, (A.over c fs).handled = none) (W : ∀ A' : Around, A'.handled = none → WalksT prog w A' e fp wr l.length (gPt l) St Mid)
    (hkf : env.scope.kind = .function) (hxp : env.kindOf nPos = some .local) (hxc : env.kindOf nCh = some .local) (hxe : env.kindOf nEsc = some .local)
    (hp : (env.scope.kind == .class || (env.scope.kind == .module && env.locals != env.globals)) = false)
    (hco : env.scope.isCoroutine = false) (hi : interactive env = false) (hCf : env.locals ∉ fp) (hfs : splitAtGen fs = none) (hfg : fs.any Frame.guarded = false)
    (hl : ∀ c ∈ l, c ≠ 92) (hlive : ∀ i h, St i h → ∀ b ∈ fp, ∃ o, h.get? b = some o)
    (hend : ∀ s₀ s (m : Str → Option Value), s.heap.Ns env.locals m → m nEsc = some (.bool false) → GenSince env.locals wr s₀ s →
      Seg (model prog w) A (gEnd env.locals wr) (gProto env.locals fp wr l) 0 s₀ (.block [] env) ((model prog w).den (.block [] env)) fs s) :
    ∀ (k i : Nat) (s₀ s : Shared) (m : Str → Option Value), l.length - i = k → i ≤ l.length → St i s.heap → s.heap.Ns env.locals m → m nEsc = some (.bool false) → GenSince env.locals wr s₀ s →
      Seg (model prog w) A (gEnd env.locals wr) (gProto env.locals fp wr l) k s₀
        (.forLoop (gTarget pa pb pt kt) (.ref e) (gBody p1 p2 p3 p4 p5 p6 p7 p8 p9 p10 p11 k3 k7 X1 X2) [] env)
        ((model prog w).den (.forLoop (gTarget pa pb pt kt) (.ref e) (gBody p1 p2 p3 p4 p5 p6 p7 p8 p9 p10 p11 k3 k7 X1 X2) [] env)) fs s := by
  have hh' := hh (.forLoop (gTarget pa pb pt kt) (.ref e) (gBody p1 p2 p3 p4 p5 p6 p7 p8 p9 p10 p11 k3 k7 X1 X2) [] env)
  have hCw : env.locals ∉ wr := fun h => hCf ((W _ hh').sub _ h)
  intro k
  induction k with
  | zero =>
    intro i s₀ s m hk hi' hst hn hme hsince
    have hin : i = l.length := by omega
    subst hin
    show Seg _ A _ _ _ s₀ _ ((forTurn (gTarget pa pb pt kt) (.ref e) (gBody p1 p2 p3 p4 p5 p6 p7 p8 p9 p10 p11 k3 k7 X1 X2) [] env).onRaise (fun x => do noteFrame x env; theTreesLotGoes x)) fs s
    rw [Sem.onRaise_eq_wrap]
    unfold forTurn
    refine seg_bind_wrap (wpAny_standAt ?_)
    refine seg_bind_wrap (wpAny_onRaise ((W _ hh').done s _ _ hst fun h' tk hk' => ?_))
    exact seg_again rfl (hend _ _ m (hn.at' fun o x => hk' _ o hCw x) hme (hsince.step fun b o _ hw x => hk' b o hw x))
  | succ k ih =>
    intro i s₀ s m hk hi' hst hn hme hsince
    have hlt : i < l.length := by omega
    show Seg _ A _ _ _ s₀ _ ((forTurn (gTarget pa pb pt kt) (.ref e) (gBody p1 p2 p3 p4 p5 p6 p7 p8 p9 p10 p11 k3 k7 X1 X2) [] env).onRaise (fun x => do noteFrame x env; theTreesLotGoes x)) fs s
    rw [Sem.onRaise_eq_wrap]
    unfold forTurn
    refine seg_bind_wrap (wpAny_standAt ?_)
    refine seg_bind_wrap (wpAny_onRaise ((W _ hh').item i s _ _ hlt hst fun T vals h₁ tk₁ hPv _ hT₁ hmid hk₁ => ?_))
    obtain ⟨c, ti, tc, hc, rfl⟩ := hPv
    dsimp only
    refine seg_bind_wrap ((W _ hh').go _ _ _ i T _ _ _ hmid fun h₁' hst₁ hk₁' => ?_)
    have hT₁' : h₁'.IsTuple T #[.int i ti, .str (tx [c]) tc] := let ⟨o, x, r⟩ := hT₁; ⟨o, hk₁' _ o ((W _ hh').apart i T _ hmid) x, r⟩
    refine seg_bind_wrap (wpAny_assign_Tuple hh' hT₁' rfl rfl fun h₁'' hx₁ => ?_)
    replace hx₁ : Heap.ExtBut h₁'.objs.size h₁' h₁'' := hx₁
    have old₁ : ∀ b o, h₁'.get? b = some o → h₁''.get? b = some o := fun b o x => hx₁ b o (Nat.ne_of_lt (Heap.lt_size x)) x
    show wpAny _ _ (do holding [Value.str (tx [c]) tc] (assign (.Name nPos pa) env (.int i ti)); holding [] (assign (.Name nCh pb) env (.str (tx [c]) tc)); pure ()) _ _ _
    refine wpAny_bind (wpAny_holding (wpAny_assign_Name (wpAny_storeName_local hxp (hn.at' fun o x => old₁ _ o (hk₁' _ o hCw (hk₁ _ o hCw x))) (fun h₂a hn₂a hs₂a => ?_) hp)))
    replace hs₂a : Heap.SameBut env.locals h₁'' h₂a := hs₂a
    refine wpAny_bind (wpAny_holding (wpAny_assign_Name (wpAny_storeName_local hxc hn₂a (fun h₂ hn₂ hs₂ => wpAny_pure ?_) hp)))
    replace hs₂ : Heap.SameBut env.locals h₂a h₂ := hs₂
    have up₂ : ∀ b o, b ≠ env.locals → b ∉ wr → s.heap.get? b = some o → h₂.get? b = some o := fun b o hbC hbw x => hs₂.extBut b o hbC (hs₂a.extBut b o hbC (old₁ b o (hk₁' b o hbw (hk₁ b o hbw x))))
    have hst₂ : St (i + 1) h₂ := (W _ hh').frame _ _ _ hst₁ fun b hb o x => hs₂.extBut b o (fun h => hCf (h ▸ hb)) (hs₂a.extBut b o (fun h => hCf (h ▸ hb)) (old₁ b o x))
    have hsince₂ : ∀ tk, GenSince env.locals wr s₀ { s with heap := h₂, toks := tk } := fun tk => hsince.step fun b o hbC hbw x => up₂ b o hbC hbw x
    rw [Sem.bind_eq_wrap', Sem.wrap_wrap]
    refine seg_execs_cons ?_
    rw [exec_If]
    refine seg_bind_wrap (wpAny_standAt ?_)
    refine seg_bind_wrap (wpAny_isTrue_value (wpAny_Name (wpAny_loadName_local hkf hxe hn₂ (v := .bool false) ?_ (wpAny_truthy_bool ?_))))
    · rw [if_neg (by decide +kernel), if_neg (by decide +kernel)]; exact hme
    rw [if_neg Bool.false_ne_true]
    refine seg_execs_cons ?_
    rw [exec_If]
    refine seg_bind_wrap (wpAny_standAt ?_)
    have hne : ((tx [c]).cps.toList == (Str.ofString "\\").cps.toList) = false := by
      have e2 : (Str.ofString "\\").cps.toList = [92] := by decide +kernel
      rw [e2]
      have := hl c (List.mem_of_getElem? hc)
      simpa [tx] using this
    refine seg_bind_wrap (wpAny_isTrue_Compare1 (wpAny_Name (wpAny_loadName_local hkf hxc hn₂ (v := .str (tx [c]) tc) (if_pos rfl) (wpAny_Constant_str (P.eq_str ?_)))))
    rw [hne]
    refine wpAny_truthy_bool ?_
    rw [if_neg Bool.false_ne_true]
    refine seg_execs_cons ?_
    refine seg_Expr_Yield hfs rfl hfg ?_ hco hi
    refine wpAny_Tuple (wpAny_items_cons (wpAny_Name (wpAny_loadName_local hkf hxp hn₂ (v := .int i ti) ?_ (wpAny_items_cons (wpAny_Name (wpAny_loadName_local hkf hxc hn₂ (v := .str (tx [c]) tc) (if_pos rfl) (wpAny_items_nil ?_)))))))
    · rw [if_neg (by decide +kernel), if_pos rfl]
    refine ⟨by rw [sizeLine_eq]; simp, fun kap hkap => ?_⟩
    have hik : l.length - 1 - k = i := by omega
    refine ⟨⟨c, _, ti, tc, by rw [hik]; exact hc, rfl, ?_⟩, ?_, ?_, fun s'' hal => hkap _ _ ?_⟩
    · rw [hik]
      exact ⟨_, Heap.get?_push_size _ rfl, rfl, _, rfl⟩
    · exact hsince.step fun b o hbC hbw x => Heap.get?_push_of_some _ (up₂ b o hbC hbw x)
    · intro b hb
      rcases List.mem_cons.mp hb with rfl | hb
      · obtain ⟨o, _, _, ho, _⟩ := hn₂
        exact ⟨o, Heap.get?_push_of_some _ ho⟩
      · obtain ⟨o, ho⟩ := hlive _ _ hst₂ b hb
        exact ⟨o, Heap.get?_push_of_some _ ho⟩
    · dsimp only
      refine seg_execs_nil ?_
      refine seg_execs_nil ?_
      refine seg_execs_nil ?_
      refine seg_again rfl (ih (i + 1) s'' s'' _ (by omega) hlt ((W _ hh').frame _ _ _ hst₂ fun b hb o x => hal b (List.mem_cons_of_mem _ hb) o (Heap.get?_push_of_some _ x))
        (hn₂.at' fun o x => hal _ (List.mem_cons_self ..) o (Heap.get?_push_of_some _ x)) ?_ (GenSince.refl _ _ _))
      rw [if_neg (by decide +kernel), if_neg (by decide +kernel)]; exact hme
end
end Mine
end
section -- Base
open PySem PySem.Spec PySem.Calls PySem.W PyProof.Rows
namespace Mine
/-- the names that the top leaves loose, as the head's ghost ground has them -/
noncomputable abbrev loose39 : List Str := looseW hd.view_39 [Str.ofString "compute_powers"] ++ List.map (fun x => x.name) (recsOf hd.view_39) ++
      List.map (fun x => x.fst) (litsOf hd.view_39) ++
    List.map (fun x => x.name) (clssOf hd.view_39 (looseW hd.view_39 [Str.ofString "compute_powers"]))

/-- everything of the one heap stands in the other, but at the places named -/
noncomputable def ExtB (S : List Addr) (h h' : Heap) : Prop := ∀ b o, h.get? b = some o → b ∉ S → h'.get? b = some o
theorem ExtB.refl {S : List Addr} {h : Heap} : ExtB S h h := fun _ _ e _ => e
theorem ExtB.trans {S : List Addr} {h h' h'' : Heap} (x : ExtB S h h') (y : ExtB S h' h'') : ExtB S h h'' := fun b o e n => y b o (x b o e n) n
theorem ExtB.fr {S : List Addr} {h₀ h h' : Heap} {L : Addr} {m : Str → Option Value} (x : ExtB S h h') (F : Fr h₀ L h m) (hS : ∀ b ∈ S, h₀.get? b = none ∧ b ≠ L) : Fr h₀ L h' m := by
  obtain ⟨oL, es, ep, hL, r⟩ := F.ns
  refine ⟨⟨oL, es, ep, x L oL hL (fun q => (hS L q).2 rfl), r⟩, fun b o e => x b o (F.keep b o e) fun q => ?_, F.above⟩
  rw [(hS b q).1] at e; cases e
theorem ExtB.news {S : List Addr} {h₀ h h' : Heap} {L : Addr} {news : List (Addr × Obj)} (x : ExtB S h h') (N : News h₀ L h news) (hS : ∀ p ∈ news, p.1 ∉ S) : News h₀ L h' news := fun p hp =>
  ⟨x _ _ (N p hp).1 (hS p hp), (N p hp).2⟩

section
variable {prog : Program} {w : World} {A₀ A : Around} {s : Shared} {base h₀ : Heap} {outer : List Env} {L : Addr} {m mg mb : Str → Option Value} {env : Env} {S : List (Addr × Obj)} {K : Frag} {p : Program} {loose : List Str} {mean : ExcName → Option Value}
  {R : Result → Shared → Prop} {name qual : Str} {params : Arguments} {body : List Stmt} {scope : Scope} {cl : List (Str × Addr)} {dV kV doc pm cdv ct : Value} {an : Option Addr} {fo : Obj} {f : Addr} {args : Args} {binds : List (Str × Value)}

theorem enterP (B : Below A₀ base outer h₀) (F : Fr h₀ L s.heap m) (X : K.In h₀) (N : News h₀ L s.heap S) (T : Top p loose mean mg mb h₀) (hA : A.frames = some (env :: outer)) (hf : env.frame = some L) (hke : env.scope.kind = .function)
    (ho : s.heap.get? f = some fo) (hd : fo.data = .func (fnX name qual params body scope cl dV kV doc pm an cdv ct)) (hcd : s.heap.CodeRec cdv qual) (hroom : A.depth < recursionLimit)
    (hbind : BindsTo s (fnX name qual params body scope cl dV kV doc pm an cdv ct) args binds) (hloc : ∀ y ∈ binds, scope.names.lookup y.1 = some .local)
    (h : ∀ g L' h₁, Fr h₀ L g m → ExtB (S.map (·.1)) s.heap g → Fr g L' h₁ (fun y => binds.reverse.lookup y) → News g L' h₁ S → Below A base (env :: outer) g → K.In g → Top p loose mean mg mb g → (∀ q ∈ S, q.1 < L') →
      wpAny (model prog w) (A.deeper (envX qual scope L' f cdv cl)) (execs body (envX qual scope L' f cdv cl))
        (fun fl s' => LeaveK h₀ L m g R (match fl with | .ret v => v | _ => .none) s')
        (fun e s' => wpAny (model prog w) (A.deeper (envX qual scope L' f cdv cl)) (leaving (envX qual scope L' f cdv cl) e) (fun _ s'' => R (.error e) s'') (fun e' s'' => R (.error e') s'') s')
        { s with heap := h₁, toks := s.toks + binds.length })
    (hcell : ∀ x ∈ scope.names, x.2 ≠ .cell) (hco : scope.isCoroutine = false := by rfl) (hgen : scope.isGenerator = false := by rfl) (hk : scope.kind = .function := by rfl) : codeAny (model prog w) A (.call (.ref f) args) R s := by
  obtain ⟨FG, BG, st, lv⟩ := groundX (R := R) B F N hA hf hke
  refine codeAny_call_def (fd := fnX name qual params body scope cl dV kV doc pm an cdv ct) (body := body) (binds := binds) hroom ho hd (T.nolimit.keeps F.keep) hcd rfl hbind hcell hloc (fun h₁ hns hk₁ => ?_) hco hgen hk
  exact wpAny_mono (h _ s.heap.objs.size h₁ FG (fun b o e hb => hideAll_get _ e hb) ⟨hns, fun b o e => hk₁ b o (of_hideAll _ e), Nat.le_of_eq (hideAll_size _ _)⟩
    (fun q hq => ⟨hk₁ _ _ (N q hq).1, Nat.ne_of_lt (Heap.lt_size (N q hq).1), hideAll_none _ (List.mem_map_of_mem hq)⟩) BG (X.keeps st) (T.keeps st) (fun q hq => Heap.lt_size (N q hq).1)) (fun fl s' hl => lv _ _ hl) fun _ _ y => y

theorem enterC (B : Below A₀ base outer h₀) (F : Fr h₀ L s.heap m) (X : K.In h₀) (N : News h₀ L s.heap S) (T : Top p loose mean mg mb h₀) (hA : A.frames = some (env :: outer)) (hf : env.frame = some L) (hke : env.scope.kind = .function)
    (ho : s.heap.get? f = some fo) (hd : fo.data = .func (fnX name qual params body scope [] dV kV doc pm an cdv ct)) (hcd : s.heap.CodeRec cdv qual) (hroom : A.depth < recursionLimit)
    (hbind : BindsTo s (fnX name qual params body scope [] dV kV doc pm an cdv ct) args binds)
    (hkind : (binds.all fun y => scope.names.lookup y.1 == some .local || scope.names.lookup y.1 == some .cell) = true)
    (hnd : ((cellsFrom 0 scope.names []).map (·.1)).Nodup)
    (h : ∀ g L' h₁ tk cells, Fr h₀ L g m → ExtB (S.map (·.1)) s.heap g → Fr g L' h₁ (bindL (envOfC qual scope L' f cdv).kindOf binds fun _ => none) → News g L' h₁ (cells ++ S) →
      CellsAre (bindC (envOfC qual scope L' f cdv).kindOf binds fun _ => none) (cellsFrom (L' + 1) scope.names []) cells → Below A base (env :: outer) g → K.In g → Top p loose mean mg mb g → (∀ q ∈ S, q.1 < L') →
      wpAny (model prog w) (A.deeper (envOfC qual scope L' f cdv)) (execs body (envOfC qual scope L' f cdv))
        (fun fl s' => LeaveK h₀ L m g R (match fl with | .ret v => v | _ => .none) s')
        (fun e s' => wpAny (model prog w) (A.deeper (envOfC qual scope L' f cdv)) (leaving (envOfC qual scope L' f cdv) e) (fun _ s'' => R (.error e) s'') (fun e' s'' => R (.error e') s'') s')
        { s with heap := h₁, toks := tk })
    (hco : scope.isCoroutine = false := by rfl) (hgen : scope.isGenerator = false := by rfl) (hk : scope.kind = .function := by rfl) : codeAny (model prog w) A (.call (.ref f) args) R s := by
  obtain ⟨FG, BG, st, lv⟩ := groundX (R := R) B F N hA hf hke
  refine codeAny_call_function hroom ho hd hco hgen rfl hcd (hbind _ _ _ _ ?_)
  refine wpAny_newFunctionEnv_cells hk (kindsX hkind _) fun env' he s' x => ?_
  subst he
  refine ⟨(T.nolimit.keeps F.keep).keeps x.toInCall.keep, codeAny_func ?_⟩
  obtain ⟨h₁, tk, rfl, _⟩ := x.done
  have hk₁ := x.toInCall.keep
  obtain ⟨cells, NC, Y⟩ := Cl.news (h₀ := s.heap) (Nat.le_refl _) fun n c hm => ⟨x.cell n c (lookup_of_mem_nodup (cellsFrom_names scope.names 0 (s.heap.objs.size + 1) [] [] rfl ▸ hnd) hm), x.above n c hm⟩
  refine wpAny_mono (h _ s.heap.objs.size h₁ tk cells FG (fun b o e hb => hideAll_get _ e hb) ⟨x.toInCall.ns, fun b o e => hk₁ b o (of_hideAll _ e), Nat.le_of_eq (hideAll_size _ _)⟩ (fun q hq => ?_) Y BG (X.keeps st) (T.keeps st) (fun q hq => Heap.lt_size (N q hq).1)) (fun fl s' hl => lv _ _ hl) fun _ _ y => y
  rcases List.mem_append.mp hq with hq | hq
  · refine ⟨(NC q hq).1, (NC q hq).2.1, ?_⟩
    cases z : (hideAll s.heap (S.map (·.1))).get? q.1 with
    | none => rfl
    | some o => have := of_hideAll _ z; rw [(NC q hq).2.2] at this; cases this
  · exact ⟨hk₁ _ _ (N q hq).1, Nat.ne_of_lt (Heap.lt_size (N q hq).1), hideAll_none _ (List.mem_map_of_mem hq)⟩
end

section
variable {prog : Program} {w : World} {A₀ A : Around} {s : Shared} {base h₀ : Heap} {outer : List Env} {L : Addr} {m mg mb : Str → Option Value} {env : Env} {S : List (Addr × Obj)} {K : Frag} {p : Program} {loose : List Str} {mean : ExcName → Option Value}
  {R : Result → Shared → Prop} {name qual : Str} {params : Arguments} {body : List Stmt} {scope : Scope} {cl : List (Str × Addr)} {dV kV doc pm cdv ct oc : Value} {an od : Option Addr} {osl : Array (Option Value)} {f : Addr} {args : Args} {binds : List (Str × Value)}
theorem enterPK (B : Below A₀ base outer h₀) (F : Fr h₀ L s.heap m) (X : K.In h₀) (N : News h₀ L s.heap S) (T : Top p loose mean mg mb h₀) (hA : A.frames = some (env :: outer)) (hf : env.frame = some L) (hke : env.scope.kind = .function)
    (ho : K.lookup f = some ⟨oc, od, .func (fnOf name qual params body scope dV kV doc pm an cdv ct), osl⟩) (hcd : codeIn K cdv qual = true) (hroom : A.depth < recursionLimit)
    (hbind : BindsTo s (fnOf name qual params body scope dV kV doc pm an cdv ct) args binds) (hloc : ∀ y ∈ binds, scope.names.lookup y.1 = some .local)
    (h : ∀ g L' h₁, Fr h₀ L g m → ExtB (S.map (·.1)) s.heap g → Fr g L' h₁ (fun y => binds.reverse.lookup y) → News g L' h₁ S → Below A base (env :: outer) g → K.In g → Top p loose mean mg mb g → (∀ q ∈ S, q.1 < L') →
      wpAny (model prog w) (A.deeper (envOf qual scope L' f cdv)) (execs body (envOf qual scope L' f cdv))
        (fun fl s' => LeaveK h₀ L m g R (match fl with | .ret v => v | _ => .none) s')
        (fun e s' => wpAny (model prog w) (A.deeper (envOf qual scope L' f cdv)) (leaving (envOf qual scope L' f cdv) e) (fun _ s'' => R (.error e) s'') (fun e' s'' => R (.error e') s'') s')
        { s with heap := h₁, toks := s.toks + binds.length })
    (hco : scope.isCoroutine = false) (hgen : scope.isGenerator = false) (hk : scope.kind = .function) (hcell : ∀ x ∈ scope.names, x.2 ≠ .cell) : codeAny (model prog w) A (.call (.ref f) args) R s :=
  enterP (cl := []) B F X N T hA hf hke ((X.keeps F.keep) _ _ ho) rfl (codeRec_of (X.keeps F.keep) hcd) hroom hbind hloc h hcell hco hgen hk
theorem enterCK (B : Below A₀ base outer h₀) (F : Fr h₀ L s.heap m) (X : K.In h₀) (N : News h₀ L s.heap S) (T : Top p loose mean mg mb h₀) (hA : A.frames = some (env :: outer)) (hf : env.frame = some L) (hke : env.scope.kind = .function)
    (ho : K.lookup f = some ⟨oc, od, .func (fnOf name qual params body scope dV kV doc pm an cdv ct), osl⟩) (hcd : codeIn K cdv qual = true) (hroom : A.depth < recursionLimit)
    (hbind : BindsTo s (fnOf name qual params body scope dV kV doc pm an cdv ct) args binds)
    (hkind : (binds.all fun y => scope.names.lookup y.1 == some .local || scope.names.lookup y.1 == some .cell) = true)
    (hnd : ((cellsFrom 0 scope.names []).map (·.1)).Nodup)
    (h : ∀ g L' h₁ tk cells, Fr h₀ L g m → ExtB (S.map (·.1)) s.heap g → Fr g L' h₁ (bindL (envOfC qual scope L' f cdv).kindOf binds fun _ => none) → News g L' h₁ (cells ++ S) →
      CellsAre (bindC (envOfC qual scope L' f cdv).kindOf binds fun _ => none) (cellsFrom (L' + 1) scope.names []) cells → Below A base (env :: outer) g → K.In g → Top p loose mean mg mb g → (∀ q ∈ S, q.1 < L') →
      wpAny (model prog w) (A.deeper (envOfC qual scope L' f cdv)) (execs body (envOfC qual scope L' f cdv))
        (fun fl s' => LeaveK h₀ L m g R (match fl with | .ret v => v | _ => .none) s')
        (fun e s' => wpAny (model prog w) (A.deeper (envOfC qual scope L' f cdv)) (leaving (envOfC qual scope L' f cdv) e) (fun _ s'' => R (.error e) s'') (fun e' s'' => R (.error e') s'') s')
        { s with heap := h₁, toks := tk })
    (hco : scope.isCoroutine = false) (hgen : scope.isGenerator = false) (hk : scope.kind = .function) : codeAny (model prog w) A (.call (.ref f) args) R s :=
  enterC B F X N T hA hf hke ((X.keeps F.keep) _ _ ho) rfl (codeRec_of (X.keeps F.keep) hcd) hroom hbind hkind hnd h hco hgen hk
end

/-- the table of the codes that a def's own defs leave: nothing yet, or the one code -/
inductive Tab (P ln col : Nat) (qual : Str) : List (Addr × Obj) → Prop
  | empty : Tab P ln col qual [(P, tabObj #[])]
  | full {c' : Addr} {oc : Obj} {vs : Array Value} {t : Tok} : @LT.lt Nat _ 141 c' → oc.data = .fields vs → vs[1]? = some (.str qual t) → Tab P ln col qual [(P, tabObj #[rawInt ln, rawInt col, .ref c']), (c', oc)]
theorem Tab.mem {P ln col : Nat} {qual : Str} {tb : List (Addr × Obj)} (x : Tab P ln col qual tb) : ∃ ps, (P, tabObj ps) ∈ tb := by
  cases x <;> exact ⟨_, .head _⟩
theorem updF_last {P : Addr} {o : Obj} : ∀ {front : List (Addr × Obj)}, (∀ q ∈ front, q.1 ≠ P) → UpdF P o (front ++ [(P, o)]) (fun o' => front ++ [(P, o')])
  | [], _ => UpdF.head (fun _ h => nomatch h)
  | _ :: _, h => UpdF.tail (h _ (.head _)) (updF_last fun q hq => h q (.tail _ hq))
theorem codeAmong_one (pos : Pos) (v : Value) : codeAmong pos [rawInt pos.line, rawInt pos.col, v] = some v := by
  simp [codeAmong, rawInt]
section
variable {M : Model} {A : Around} {E : Value → Shared → Prop} {s : Shared} {h₀ : Heap} {L a c P : Addr} {m mg mb : Str → Option Value} {cn : Str} {cs : Scope} {ccd : Value} {cl : List (Str × Addr)} {front tb : List (Addr × Obj)}
  {p : Program} {loose : List Str} {mean : ExcName → Option Value} {name qual : Str} {params : Arguments} {body : List Stmt} {scope : Scope} {pos : Pos} {firstLine : Nat} {clos : List (Str × Addr)}
theorem nestTab {Q : Value → Shared → Prop} (F : Fr h₀ L s.heap m) (N : News h₀ L s.heap (front ++ tb)) (T : Top p loose mean mg mb h₀) (C : CodeHd h₀ c P) (hcd : ccd = .ref c) (hT : Tab P pos.line pos.col qual tb) (hs : ∀ q ∈ front, ∀ p ∈ tb, q.1 ≠ p.1) (hL : ∃ q ∈ front, @LT.lt Nat _ 141 q.1)
    (hcl : closureFor scope (envX cn cs L a ccd cl) = pure clos)
    (h : ∀ f c' oc vs t ctv doc h' tk tb', Fr h₀ L h' m →
      News h₀ L h' ((f, fnMade name qual params body scope clos doc ((mg "__name__").getD .none) c' ctv) :: (c', oc) :: (front ++ tb')) → Tab P pos.line pos.col qual tb' →
      oc.data = .fields vs → vs[1]? = some (.str qual t) → (∀ q ∈ front, q.1 < f ∧ q.1 ≠ c') → c' < f → (∀ q ∈ front, ∀ p ∈ tb', q.1 ≠ p.1) → (∀ p ∈ tb, p.1 ∈ tb'.map (·.1)) → Q (.ref f) { s with heap := h', toks := tk }) :
    wpAny M A (makeFunction name qual params (.stmts body) scope (envX cn cs L a ccd cl) [] [] [] pos firstLine) Q E s := by
  have hPf : ∀ q ∈ front, q.1 ≠ P := fun q hq => by
    obtain ⟨ps, hp⟩ := hT.mem
    exact hs q hq _ hp
  cases hT with
  | empty =>
    have U := updF_last (o := tabObj #[]) hPf
    refine nest_K F N T C hcd U trivial rfl hcl fun f c' oc vs t ctv doc h' tk F' N' d1 d2 l1 l2 => ?_
    obtain ⟨q₀, hq₀, hL⟩ := hL
    have hc : @LT.lt Nat _ 141 c' := Nat.lt_trans hL (l1 q₀ (List.mem_append_left _ hq₀))
    refine h f c' oc vs t ctv doc h' tk [(P, tabObj #[rawInt pos.line, rawInt pos.col, .ref c']), (c', oc)] F' (fun q hq => ?_) (.full hc d1 d2) d1 d2 (fun q hq => ?_) l2 (fun q hq p hp => ?_) fun p hp => by rw [List.mem_singleton.mp hp]; exact .head _
    · rcases List.mem_cons.mp hq with rfl | hq
      · exact N' _ (.head _)
      · rcases List.mem_cons.mp hq with rfl | hq
        · exact N' _ (.tail _ (.head _))
        · rcases List.mem_append.mp hq with hq | hq
          · exact N' _ (.tail _ (.tail _ (List.mem_append_left _ hq)))
          · rcases List.mem_cons.mp hq with rfl | hq
            · exact N' _ (.tail _ (.tail _ (List.mem_append_right _ (.head _))))
            · rw [List.mem_singleton.mp hq]; exact N' _ (.tail _ (.head _))
    · have := l1 q (List.mem_append_left _ hq)
      exact ⟨Nat.lt_trans this l2, Nat.ne_of_lt this⟩
    · rcases List.mem_cons.mp hp with rfl | hp
      · exact hPf q hq
      · rw [List.mem_singleton.mp hp]; exact Nat.ne_of_lt (l1 q (List.mem_append_left _ hq))
  | full h1 h2 h3 =>
    rename_i c' oc vs t
    refine nestHit_K F N T C hcd (List.mem_append_right _ (.head _)) (by simp [TriplesOk, rawInt]) (codeAmong_one pos _) hcl fun f ctv doc h' tk F' N' l1 => ?_
    refine h f c' oc vs t ctv doc h' tk [(P, tabObj #[rawInt pos.line, rawInt pos.col, .ref c']), (c', oc)] F' (fun q hq => ?_) (.full h1 h2 h3) h2 h3 (fun q hq => ⟨l1 q (List.mem_append_left _ hq), hs q hq _ (.tail _ (.head _))⟩) (l1 _ (List.mem_append_right _ (.tail _ (.head _)))) hs fun p hp => List.mem_map_of_mem hp
    rcases List.mem_cons.mp hq with rfl | hq
    · exact N' _ (.head _)
    · rcases List.mem_cons.mp hq with rfl | hq
      · exact N' _ (.tail _ (List.mem_append_right _ (.tail _ (.head _))))
      · exact N' _ (.tail _ hq)
end

theorem IsList.ext {S : List Addr} {h h' : Heap} {l : Addr} {vs : Array Value} (x : h.IsList l vs) (e : ExtB S h h') (hS : l ∉ S) : h'.IsList l vs :=
  let ⟨o, ho, r⟩ := x; ⟨o, e _ _ ho hS, r⟩
theorem introS {P : Prop} {h₀ h : Heap} {L : Addr} {S : List (Addr × Obj)} (N : News h₀ L h S) (k : ∀ SS, SS = S → News h₀ L h SS → P) : P := k S rfl N
/-- what stood in the caller's heap stands at the end, but at the table -/
theorem ext_end {S : List Addr} {h g h' : Heap} {L : Addr} {m : Str → Option Value} (GX : ExtB S h g) (F : Fr g L h' m) : ExtB S h h' := fun b o e n => F.keep b o (GX b o e n)
theorem new_end {S : List Addr} {h g h' : Heap} {L q : Addr} {o : Obj} {news : List (Addr × Obj)} (GX : ExtB S h g) (N : News g L h' news) (hm : (q, o) ∈ news) (hq : q ∉ S) : h.get? q = none ∧ h'.get? q = some o := by
  refine ⟨?_, (N _ hm).1⟩
  cases e : h.get? q with
  | none => rfl
  | some o' => have := GX q o' e hq; rw [(N _ hm).2.2] at this; cases this
theorem old_or_new {S : List Addr} {h g h' : Heap} {L : Addr} {news : List (Addr × Obj)} (GX : ExtB S h g) (N : News g L h' news) : ∀ p ∈ news, p.1 ∈ S ∨ h.get? p.1 = none := fun p hp => by
  by_cases hS : p.1 ∈ S
  · exact .inl hS
  · exact .inr (new_end GX N (q := p.1) (o := p.2) hp hS).1
theorem low_lt {K : Frag} {h₀ h : Heap} {L : Addr} {m : Str → Option Value} {o : Obj} (X : K.In h₀) (F : Fr h₀ L h m) (ho : K.lookup 141 = some o) : @LT.lt Nat _ 141 L :=
  Nat.lt_of_lt_of_le (Heap.lt_size (X _ _ ho)) F.above
theorem introF {P : Prop} {h₀ h : Heap} {L : Addr} {a : Addr × Obj} {r : List (Addr × Obj)} (N : News h₀ L h (a :: r)) (k : ∀ fe, fe = a → News h₀ L h (fe :: r) → P) : P := k a rfl N
theorem foldl_rep {α : Type} (v : α) : ∀ (k : Nat) (acc : Array α), List.foldl (fun x1 x2 => x1 ++ x2) acc (List.replicate k #[v]) = acc ++ (List.replicate k v).toArray
  | 0, acc => by simp
  | k + 1, acc => by
    rw [List.replicate_succ, List.foldl_cons, foldl_rep v k, List.replicate_succ]
    apply Array.ext'
    simp
section
variable {prog : Program} {w : World} {A : Around} {E : Value → Shared → Prop} {s : Shared} {h₀ : Heap} {L : Addr} {m : Str → Option Value} {news : List (Addr × Obj)}
theorem mulList0 {l : Addr} {tk u : Tok} {x : Int} {n : Nat} {Q : Value → Shared → Prop} (F : Fr h₀ L s.heap m) (N : News h₀ L s.heap news) (hl : (l, W.listOf #[.int 0 tk] n) ∈ news) (h0 : 0 ≤ x) (h1 : x ≤ 2 ^ 20)
    (h : ∀ q h', Fr h₀ L h' m → News h₀ L h' ((q, W.listOf (List.replicate x.toNat (.int 0 tk)).toArray 0) :: news) → AllLt q news → Q (.ref q) { s with heap := h' }) :
    wpAny (model prog w) A (binaryOp .Mult (.ref l) (.int x u)) Q E s := by
  refine mul_list F N (N _ hl).1 (by omega) (by omega) (by show 1 * x.toNat ≤ 2 ^ 24; omega) fun h' F' N' => ?_
  have e : (List.foldl (fun x1 x2 => x1 ++ x2) #[] (List.replicate (if (#[Value.int 0 tk] : Array Value).isEmpty = true then 0 else x.toNat) #[Value.int 0 tk])) = (List.replicate x.toNat (Value.int 0 tk)).toArray := by
    rw [if_neg (by simp), foldl_rep]; simp
  rw [e] at N'
  exact h _ _ F' N' (allLt_of fun p hp => Heap.lt_size (N p hp).1)
end
theorem fr_put {h₀ h : Heap} {L : Addr} {m : Str → Option Value} (x : Str) {v : Value} (F : Fr h₀ L h m) (e : m x = some v) : Fr h₀ L h (fun y => if y = x then some v else m y) := by
  have : (fun y => if y = x then some v else m y) = m := by
    funext y
    by_cases h : y = x
    · rw [if_pos h, h, e]
    · rw [if_neg h]
  rw [this]; exact F
end Mine
end
section -- Lw0
open PySem PySem.Spec PySem.Calls PySem.W PyProof.Rows
namespace Mine
/-- the end of the law: True, the heap kept, the generators bare, the tables grown -/
theorem kn_postG {M : Model} {A : Around} {cd : Code} {s s₁ : Shared} {cw : ClaimW} {cl : Str → Option Addr} {mean : ExcName → Option Value} {args : List WData} {tabs : List (Addr × Addr)} (hT : TabsAt tabs s₁.heap) (hr : ∀ a x, cw.raises a x = false)
    (h : codeAny M A cd (fun r s' => GoodW cw cl mean args { s₁ with heap := ghostOf s₁.heap tabs } r { s' with gens := #[] } ∧ AllBare s'.gens ∧ GrownAll tabs s'.heap) s) : codeAny M A cd (GoodWG cw cl mean args s₁) s :=
  codeAny_mono h fun r s' ⟨⟨hc, hk, hos, _⟩, hg, hgr⟩ => by
    have keep : ∀ b o, b ∉ tabs.map (·.2) → s₁.heap.get? b = some o → s'.heap.get? b = some o := fun b o hb e => hk b o (ghost_ne e hb)
    have grown : ∀ b o, b ∈ tabs.map (·.2) → s₁.heap.get? b = some o → isCodeTable s₁.heap b ∧ o = tabObj #[] ∧ ∃ ps, s'.heap.get? b = some (tabObj ps) := fun b o hb e => by
      obtain ⟨q, hq, rfl⟩ := List.mem_map.mp hb
      have e2 := (hT q hq).2
      rw [e] at e2
      exact ⟨((hT q hq).1.tab (hT q hq).2).isCodeTable, Option.some.inj e2, hgr.get q hq⟩
    refine ⟨?_, ⟨fun b o e => ?_, fun b o e => ?_⟩, hos, hg⟩
    · rcases hc with ⟨v, d, as, r1, r2, r3, r4, r5⟩ | ⟨e, ob, x, _, _, _, r4, _⟩
      · refine .inl ⟨v, d, as, r1, r2, r3, r4, fun q => ⟨(r5 q).1, fun a ha => ?_⟩⟩
        cases q1 : s₁.heap.get? a with
        | none => rfl
        | some o =>
          by_cases hb : a ∈ tabs.map (·.2)
          · obtain ⟨_, _, ps, hP⟩ := grown a o hb q1
            exact absurd ha (readsW_apart hP rfl r3)
          · have e3 := (r5 q).2 a ha
            rw [show (ghostOf s₁.heap tabs).get? a = some o from ghost_ne q1 hb] at e3
            cases e3
      · rw [hr] at r4; cases r4
    · by_cases hb : b ∈ tabs.map (·.2)
      · obtain ⟨ht, rfl, ps, hP⟩ := grown b o hb e
        exact .inr (.inl ⟨ht, rfl, #[], ps, rfl, by rw [Array.empty_append]; exact hP⟩)
      · exact .inl (keep b o hb e)
    · by_cases hb : b ∈ tabs.map (·.2)
      · obtain ⟨_, _, ps, hP⟩ := grown b o hb e
        exact ⟨_, hP⟩
      · exact ⟨o, keep b o hb e⟩
/-- the law's own body and scope, read off the program -/
noncomputable def lawDef : List Stmt × Scope := match PySem.Challenge.pw_ul0012_01.main.body.getLast? with
  | some (.FunctionDef _ _ b _ _ _ sc _ _ _) => (b, sc)
  | _ => ([], default)
noncomputable def lawSc : Scope := lawDef.2
noncomputable def lawAt (k : Nat) : Stmt := (lawDef.1.drop k).headD (.Pass ⟨0, 0, 0, 0⟩)
end Mine
end
section -- Pure
namespace Mine
/-- digits to an int, the least first -/
noncomputable def evalD (w : Nat) : List Int → Int
  | [] => 0
  | d :: r => d + 2 ^ w * evalD w r
theorem evalD_append (w : Nat) : ∀ xs ys : List Int, evalD w (xs ++ ys) = evalD w xs + 2 ^ (w * xs.length) * evalD w ys
  | [], ys => by simp [evalD]
  | x :: xs, ys => by
    rw [List.cons_append, evalD, evalD, evalD_append w xs ys, List.length_cons, Nat.mul_add, Nat.mul_one, Int.pow_add]
    rw [Int.mul_add, Int.add_assoc, ← Int.mul_assoc, Int.mul_comm (2 ^ (w * xs.length))]
noncomputable def seg (ds : List Int) (lo hi : Int) : List Int := (ds.drop lo.toNat).take (hi - lo).toNat
theorem cs (a b : Nat) : ((a + b : Nat) : Int) - (a : Int) = (b : Int) := by rw [Int.natCast_add, Int.add_comm, Int.add_sub_cancel]
theorem three {lo M hi : Int} (h0 : 0 ≤ lo) (h1 : lo ≤ M) (h2 : M ≤ hi) : ∃ a b c : Nat, lo = (a : Int) ∧ M = ((a + b : Nat) : Int) ∧ hi = ((a + b + c : Nat) : Int) := by
  obtain ⟨a, rfl⟩ := Int.eq_ofNat_of_zero_le h0
  obtain ⟨b, hb⟩ := Int.le.dest h1
  obtain ⟨c, hc⟩ := Int.le.dest h2
  exact ⟨a, b, c, rfl, hb.symm, by rw [← hc, ← hb]; rfl⟩
theorem mid_facts {lo hi M : Int} {k len : Nat} (h1 : 0 ≤ lo) (h2 : lo < hi) (h3 : hi ≤ (len : Int)) (hl : len ≤ 64) (h4 : (hi - lo).toNat ≤ k + 1) (hM : M = (lo + hi) / 2) :
    (lo ≤ M ∧ M < hi ∧ 0 ≤ M - lo ∧ M - lo ≤ 64) ∧ (lo + 1 ≠ hi → lo < M ∧ (M - lo).toNat ≤ k ∧ (hi - M).toNat ≤ k) := by omega
theorem seg_nat (ds : List Int) (a b : Nat) : seg ds (a : Int) ((a + b : Nat) : Int) = (ds.drop a).take b := by
  unfold seg; rw [cs, Int.toNat_natCast, Int.toNat_natCast]
theorem seg_one {ds : List Int} {lo hi : Int} (h0 : 0 ≤ lo) (h : lo + 1 = hi) (hi' : hi ≤ ds.length) : seg ds lo hi = [ds.getD lo.toNat 0] := by
  obtain ⟨a, rfl⟩ := Int.eq_ofNat_of_zero_le h0
  subst h
  have hlt : a < ds.length := Int.ofNat_lt.mp (Int.lt_of_lt_of_le (Int.lt_succ _) hi')
  have e := seg_nat ds a 1
  rw [Int.toNat_natCast, show ((a : Int) + 1) = ((a + 1 : Nat) : Int) from rfl, e, List.drop_eq_getElem_cons hlt, List.getD_eq_getElem?_getD, List.getElem?_eq_getElem hlt]; rfl
theorem seg_split {ds : List Int} {lo mid hi : Int} (h0 : 0 ≤ lo) (h1 : lo ≤ mid) (h2 : mid ≤ hi) : seg ds lo hi = seg ds lo mid ++ seg ds mid hi := by
  obtain ⟨a, b, c, rfl, rfl, rfl⟩ := three h0 h1 h2
  rw [seg_nat, seg_nat, Nat.add_assoc, seg_nat, List.take_add, List.drop_drop]
theorem seg_len {ds : List Int} {lo hi : Int} (h0 : 0 ≤ lo) (h1 : lo ≤ hi) (hi' : hi ≤ ds.length) : (seg ds lo hi).length = (hi - lo).toNat := by
  obtain ⟨a, b, _, rfl, rfl, -⟩ := three h0 h1 (Int.le_refl hi)
  have h3 : a + b ≤ ds.length := Int.ofNat_le.mp hi'
  rw [seg_nat, cs, Int.toNat_natCast, List.length_take, List.length_drop]
  exact Nat.min_eq_left (Nat.le_sub_of_add_le (by rw [Nat.add_comm]; exact h3))
end Mine
namespace Mine
theorem evalD_lt {w : Nat} : ∀ {l : List Int}, (∀ d ∈ l, d.natAbs < 2 ^ 100) → (evalD w l).natAbs < 2 ^ (100 + (w + 1) * l.length)
  | [], _ => by simp [evalD]
  | d :: r, h => by
    have h1 := h d (.head _)
    have h2 := evalD_lt (w := w) (l := r) fun x hx => h x (.tail _ hx)
    rw [evalD, List.length_cons]
    have e : 100 + (w + 1) * (r.length + 1) = (100 + w + (w + 1) * r.length) + 1 := by rw [Nat.mul_add]; omega
    rw [e, Nat.pow_succ]
    have h3 : (2 ^ w * evalD w r).natAbs < 2 ^ (100 + w + (w + 1) * r.length) := by
      rw [Int.natAbs_mul, Int.natAbs_pow]
      have e2 : 100 + w + (w + 1) * r.length = w + (100 + (w + 1) * r.length) := by omega
      rw [e2, Nat.pow_add]
      exact Nat.mul_lt_mul_of_pos_left h2 (Nat.pow_pos (by decide))
    have h4 : (2 : Nat) ^ 100 ≤ 2 ^ (100 + w + (w + 1) * r.length) := Nat.pow_le_pow_right (by decide) (by omega)
    have h5 := Int.natAbs_add_le d (2 ^ w * evalD w r)
    omega
theorem mem_seg {ds : List Int} {lo hi d : Int} (h : d ∈ seg ds lo hi) : d ∈ ds := List.mem_of_mem_drop (List.mem_of_mem_take h)
theorem seg_le {ds : List Int} {lo hi : Int} : (seg ds lo hi).length ≤ ds.length := by
  unfold seg
  exact Nat.le_trans (List.length_take_le' _ _) (by rw [List.length_drop]; exact Nat.sub_le _ _)
theorem evalD_seg_bits {w : Nat} {ds : List Int} {lo hi : Int} (hd : ∀ d ∈ ds, d.natAbs < 2 ^ 100) (hw : w ≤ 64) (hl : ds.length ≤ 64) : (evalD w (seg ds lo hi)).natAbs < 2 ^ 5000 := by
  refine Nat.lt_of_lt_of_le (evalD_lt fun d h => hd d (mem_seg h)) (Nat.pow_le_pow_right (by decide) ?_)
  have h1 := seg_le (ds := ds) (lo := lo) (hi := hi)
  have : (w + 1) * (seg ds lo hi).length ≤ 65 * 64 := Nat.mul_le_mul (by omega) (by omega)
  omega
theorem d2i_step {ds : List Int} {lo mid hi n : Int} (h0 : 0 ≤ lo) (h1 : lo ≤ mid) (h2 : mid ≤ hi) (h3 : hi ≤ ds.length) (hn : 0 ≤ n) :
    evalD n.toNat (seg ds mid hi) * 2 ^ ((mid - lo) * n).toNat + evalD n.toNat (seg ds lo mid) = evalD n.toNat (seg ds lo hi) := by
  rw [seg_split h0 h1 h2, evalD_append, seg_len h0 h1 (by omega), Int.add_comm, Int.mul_comm]
  congr 2
  have : ((mid - lo) * n).toNat = (mid - lo).toNat * n.toNat := Int.toNat_mul (by omega) hn
  rw [this, Nat.mul_comm]
theorem evalD_one {w : Nat} {d : Int} : evalD w [d] = d := by simp [evalD]
theorem seg_all {ds : List Int} : seg ds 0 ds.length = ds := by
  unfold seg; simp
end Mine
end
section -- Pure2
open PySem
namespace Mine
theorem and_high (x k : Nat) : x &&& (x / 2 ^ k * 2 ^ k) = x / 2 ^ k * 2 ^ k := by
  apply Nat.eq_of_testBit_eq
  intro i
  rw [Nat.testBit_and, Nat.testBit_mul_two_pow]
  by_cases h : k ≤ i
  · simp only [h, decide_true, Bool.true_and]
    rw [Nat.testBit_div_two_pow, Nat.sub_add_cancel h]
    simp
  · simp [h]
theorem xor_low {x : Int} (hx : 0 ≤ x) (k : Nat) : Builtin.bitXor x (x.fdiv (2 ^ k) * 2 ^ k) = x % 2 ^ k := by
  obtain ⟨n, rfl⟩ := Int.eq_ofNat_of_zero_le hx
  rw [PyProof.Rows.bitXor_and, Int.fdiv_eq_ediv_of_nonneg _ (Int.le_of_lt (Int.pow_pos (by decide)))]
  have e : ((n : Int) / 2 ^ k * 2 ^ k) = ((n / 2 ^ k * 2 ^ k : Nat) : Int) := by simp
  have e2 : Builtin.bitAnd (n : Int) ((n / 2 ^ k * 2 ^ k : Nat) : Int) = ((n / 2 ^ k * 2 ^ k : Nat) : Int) := by
    show (((n : Int).toNat &&& ((n / 2 ^ k * 2 ^ k : Nat) : Int).toNat : Nat) : Int) = _
    rw [Int.toNat_natCast, Int.toNat_natCast, and_high]
  rw [e, e2]
  have h := Int.emod_add_mul_ediv (n : Int) (2 ^ k)
  have e3 : ((n / 2 ^ k * 2 ^ k : Nat) : Int) = 2 ^ k * ((n : Int) / 2 ^ k) := by rw [← e, Int.mul_comm]
  omega
/-- an int's digits, the least first -/
noncomputable def toD (w : Nat) (x : Int) : Nat → List Int
  | 0 => []
  | k + 1 => x % 2 ^ w :: toD w (x / 2 ^ w) k
theorem toD_len (w : Nat) : ∀ (k : Nat) (x : Int), (toD w x k).length = k
  | 0, _ => rfl
  | k + 1, x => by rw [toD, List.length_cons, toD_len w k]
theorem toD_add (w : Nat) : ∀ (a b : Nat) (x : Int), toD w x (a + b) = toD w x a ++ toD w (x / 2 ^ (w * a)) b
  | 0, b, x => by simp [toD]
  | a + 1, b, x => by
    have e : a + 1 + b = (a + b) + 1 := by omega
    rw [e, toD, toD, toD_add w a b, List.cons_append]
    congr 3
    rw [Int.ediv_ediv_of_nonneg (Int.le_of_lt (Int.pow_pos (by decide))), ← Int.pow_add, Nat.mul_add, Nat.mul_one, Nat.add_comm]
theorem toD_mod (w : Nat) : ∀ (a : Nat) (x : Int), toD w (x % 2 ^ (w * a)) a = toD w x a
  | 0, _ => rfl
  | a + 1, x => by
    have hp : (2 : Int) ^ (w * (a + 1)) = 2 ^ w * 2 ^ (w * a) := by rw [← Int.pow_add, Nat.mul_add, Nat.mul_one, Nat.add_comm]
    rw [toD, toD, ← toD_mod w a (x / 2 ^ w), ← toD_mod w a (x % 2 ^ (w * (a + 1)) / 2 ^ w)]
    have h2 : (0 : Int) < 2 ^ w := Int.pow_pos (by decide)
    have e1 : x % 2 ^ (w * (a + 1)) % 2 ^ w = x % 2 ^ w := by
      rw [hp]; exact Int.emod_emod_of_dvd x ⟨_, rfl⟩
    have e2 : x % 2 ^ (w * (a + 1)) / 2 ^ w % 2 ^ (w * a) = x / 2 ^ w % 2 ^ (w * a) := by
      rw [hp, Int.emod_def x (2 ^ w * 2 ^ (w * a)), Int.mul_assoc]
      have : (x - 2 ^ w * (2 ^ (w * a) * (x / (2 ^ w * 2 ^ (w * a))))) / 2 ^ w = x / 2 ^ w - 2 ^ (w * a) * (x / (2 ^ w * 2 ^ (w * a))) := by
        rw [Int.sub_eq_add_neg, ← Int.mul_neg, Int.add_mul_ediv_left _ _ (Int.ne_of_gt h2), Int.sub_eq_add_neg]
      rw [this, Int.sub_eq_add_neg, ← Int.mul_neg, Int.add_mul_emod_self_left]
    rw [e1, e2]
theorem toD_one {w : Nat} {x : Int} (h0 : 0 ≤ x) (h1 : x < 2 ^ w) : toD w x 1 = [x] := by
  rw [toD, toD, Int.emod_eq_of_lt h0 h1]
end Mine
namespace Mine
theorem set_take {ns : List Int} {w : Nat} {lo hi x : Int} (h0 : 0 ≤ lo) (h1 : lo + 1 = hi) (h2 : hi ≤ ns.length) (hx : 0 ≤ x) (hl : x < 2 ^ w) :
    ns.take lo.toNat ++ toD w x (hi - lo).toNat ++ ns.drop hi.toNat = ns.set lo.toNat x := by
  obtain ⟨a, rfl⟩ := Int.eq_ofNat_of_zero_le h0
  subst h1
  have hlt : a < ns.length := Int.ofNat_lt.mp (Int.lt_of_lt_of_le (Int.lt_succ _) h2)
  rw [show (a : Int) + 1 - (a : Int) = 1 by rw [Int.add_comm, Int.add_sub_cancel], show ((a : Int) + 1).toNat = a + 1 from rfl, Int.toNat_natCast, show (1 : Int).toNat = 1 from rfl, toD_one hx hl, List.set_eq_take_append_cons_drop, if_pos hlt, List.append_assoc]
  rfl
theorem i2d_join {ns : List Int} {w : Nat} {lo M hi n x : Int} (hw : w = n.toNat) (hn : 0 ≤ n) (h0 : 0 ≤ lo) (h1 : lo ≤ M) (h2 : M ≤ hi) (h3 : hi ≤ ns.length) :
    ((ns.take lo.toNat ++ toD w (x % 2 ^ ((M - lo) * n).toNat) (M - lo).toNat ++ ns.drop M.toNat).take M.toNat ++ toD w (x / 2 ^ ((M - lo) * n).toNat) (hi - M).toNat ++
      (ns.take lo.toNat ++ toD w (x % 2 ^ ((M - lo) * n).toNat) (M - lo).toNat ++ ns.drop M.toNat).drop hi.toNat) = ns.take lo.toNat ++ toD w x (hi - lo).toNat ++ ns.drop hi.toNat := by
  obtain ⟨a, b, c, rfl, rfl, rfl⟩ := three h0 h1 h2
  have h3 : a + b + c ≤ ns.length := Int.ofNat_le.mp h3
  rw [cs a b, cs (a + b) c, show ((a + b + c : Nat) : Int) - (a : Int) = ((b + c : Nat) : Int) by rw [Nat.add_assoc]; exact cs a (b + c)]
  simp only [Int.toNat_natCast]
  have esh : ((b : Int) * n).toNat = w * b := by rw [hw, Int.toNat_mul (Int.natCast_nonneg b) hn, Int.toNat_natCast, Nat.mul_comm]
  rw [esh, toD_mod]
  have hlen : (ns.take a ++ toD w x b).length = a + b := by
    rw [List.length_append, List.length_take, toD_len, Nat.min_eq_left (Nat.le_trans (Nat.le_trans (Nat.le_add_right a b) (Nat.le_add_right _ c)) h3)]
  have e1 : (ns.take a ++ toD w x b ++ ns.drop (a + b)).take (a + b) = ns.take a ++ toD w x b := by
    rw [List.take_append_of_le_length (Nat.le_of_eq hlen.symm), List.take_of_length_le (Nat.le_of_eq hlen)]
  have e2 : (ns.take a ++ toD w x b ++ ns.drop (a + b)).drop (a + b + c) = ns.drop (a + b + c) := by
    have h := List.drop_length_add_append (l₁ := ns.take a ++ toD w x b) (l₂ := ns.drop (a + b)) (i := c)
    rw [hlen] at h
    rw [h, List.drop_drop]
  rw [e1, e2, toD_add, List.append_assoc (ns.take a)]
theorem pow_lo {x M lo n : Int} : x % 2 ^ ((M - lo) * n).toNat < 2 ^ (n * (M - lo)).toNat := by
  rw [Int.mul_comm n]; exact Int.emod_lt_of_pos _ (Int.pow_pos (by decide))
theorem pow_hi {x lo M hi n : Int} (hn : 0 ≤ n) (h1 : lo ≤ M) (h2 : M ≤ hi) (hx : x < 2 ^ (n * (hi - lo)).toNat) : x / 2 ^ ((M - lo) * n).toNat < 2 ^ (n * (hi - M)).toNat := by
  apply Int.ediv_lt_of_lt_mul (Int.pow_pos (by decide))
  rw [← Int.pow_add]
  have e : (n * (hi - M)).toNat + ((M - lo) * n).toNat = (n * (hi - lo)).toNat := by
    rw [Int.mul_comm (M - lo) n, ← Int.toNat_add (Int.mul_nonneg hn (by omega)) (Int.mul_nonneg hn (by omega)), ← Int.mul_add]
    congr 2; omega
  rw [e]; exact hx
theorem toD_len_join {ns : List Int} {w : Nat} {lo M : Int} {x : Int} (h0 : 0 ≤ lo) (h1 : lo ≤ M) (h3 : M ≤ ns.length) : (ns.take lo.toNat ++ toD w x (M - lo).toNat ++ ns.drop M.toNat).length = ns.length := by
  obtain ⟨a, b, _, rfl, rfl, -⟩ := three h0 h1 (Int.le_refl M)
  have h3 : a + b ≤ ns.length := Int.ofNat_le.mp h3
  rw [cs a b, List.length_append, List.length_append, List.length_take, List.length_drop, toD_len, Int.toNat_natCast, Int.toNat_natCast, Int.toNat_natCast, Nat.min_eq_left (Nat.le_trans (Nat.le_add_right a b) h3), Nat.add_sub_of_le h3]
theorem bits_pow {x lo hi n : Int} (hx : 0 ≤ x) (hn : 0 ≤ n) (hn1 : n ≤ 64) (h0 : 0 ≤ lo) (h2 : hi ≤ 5000) (h : x < 2 ^ (n * (hi - lo)).toNat) : Builtin.Int.intBits x ≤ 320000 := by
  refine PyProof.Rows.intBits_le ?_
  have e : (n * (hi - lo)).toNat ≤ 320000 := by
    have : n * (hi - lo) ≤ 64 * 5000 ∨ hi - lo < 0 := by
      by_cases hh : hi - lo < 0
      · exact .inr hh
      · exact .inl (Int.mul_le_mul hn1 (by omega) (by omega) (by decide))
    rcases this with h | h
    · omega
    · have := Int.mul_nonpos_of_nonneg_of_nonpos hn (Int.le_of_lt h); omega
  obtain ⟨m, rfl⟩ := Int.eq_ofNat_of_zero_le hx
  have h' : m < 2 ^ (n * (hi - lo)).toNat := by exact_mod_cast h
  exact Nat.lt_of_lt_of_le h' (Nat.pow_le_pow_right (by decide) e)
end Mine
namespace Mine
/-- how many digits an int has -/
noncomputable def numD (x n : Int) : Nat := (((Builtin.Int.intBits x : Nat) + n - 1 : Int) / n).toNat
theorem ints_rep (t : Tok) : ∀ k : Nat, PyProof.Rows.IntsAre (List.replicate k (Value.int 0 t)) (List.replicate k 0)
  | 0 => .nil
  | k + 1 => by rw [List.replicate_succ, List.replicate_succ]; exact .cons 0 t (ints_rep t k)
theorem lt_bits {x : Int} (hx : 0 ≤ x) : x < 2 ^ (Builtin.Int.intBits x) := by
  obtain ⟨m, rfl⟩ := Int.eq_ofNat_of_zero_le hx
  have h := (intBits_le_iff (m := Builtin.Int.intBits (m : Int)) (x := (m : Int))).mp (Nat.le_refl _)
  rw [Int.natAbs_natCast] at h
  exact_mod_cast h
theorem numD_lt {x n : Int} (hx : 0 ≤ x) (hn : 1 ≤ n) : x < 2 ^ (n * ((numD x n : Nat) : Int)).toNat := by
  refine Int.lt_of_lt_of_le (lt_bits hx) ?_
  have h1 : (Builtin.Int.intBits x : Int) ≤ n * ((((Builtin.Int.intBits x : Nat) + n - 1 : Int) / n)) := by
    have h := Int.emod_add_mul_ediv ((Builtin.Int.intBits x : Nat) + n - 1 : Int) n
    have h2 := Int.emod_lt_of_pos ((Builtin.Int.intBits x : Nat) + n - 1 : Int) (b := n) (by omega)
    omega
  have h0 : 0 ≤ (((Builtin.Int.intBits x : Nat) + n - 1 : Int) / n) := Int.ediv_nonneg (by omega) (by omega)
  have e : ((numD x n : Nat) : Int) = (((Builtin.Int.intBits x : Nat) + n - 1 : Int) / n) := by unfold numD; omega
  rw [e]
  exact_mod_cast Nat.pow_le_pow_right (n := 2) (by decide) (by omega : Builtin.Int.intBits x ≤ (n * ((((Builtin.Int.intBits x : Nat) + n - 1 : Int) / n))).toNat)
theorem numD_le {x n : Int} (hn : 1 ≤ n) (h : (Builtin.Int.intBits x : Int) ≤ 64 * n) : numD x n ≤ 64 := by
  unfold numD
  have : (((Builtin.Int.intBits x : Nat) + n - 1 : Int) / n) ≤ 64 := by
    have : (((Builtin.Int.intBits x : Nat) + n - 1 : Int) / n) < 65 := Int.ediv_lt_of_lt_mul (by omega) (by omega)
    omega
  omega
theorem numD_pos {x n : Int} (hn : 1 ≤ n) (h : x ≠ 0) : 0 < numD x n := by
  unfold numD
  have h0 : 1 ≤ Builtin.Int.intBits x := by
    unfold Builtin.Int.intBits
    rw [if_neg (by simpa using h)]; omega
  have : 1 ≤ (((Builtin.Int.intBits x : Nat) + n - 1 : Int) / n) := Int.le_ediv_of_mul_le (by omega) (by omega)
  omega
theorem numD_zero {n : Int} (hn : 1 ≤ n) : numD 0 n = 0 := by
  unfold numD
  have e : Builtin.Int.intBits 0 = 0 := rfl
  rw [e]
  have : ((((0 : Nat) : Int) + n - 1) / n) = 0 := Int.ediv_eq_zero_of_lt (by omega) (by omega)
  omega
end Mine

namespace Mine
theorem ints_app {a c : List Value} {b d : List Int} (h : PyProof.Rows.IntsAre a b) (k : PyProof.Rows.IntsAre c d) : PyProof.Rows.IntsAre (a ++ c) (b ++ d) := by
  induction h with
  | nil => exact k
  | cons n t _ ih => exact .cons n t ih
theorem ints_one (n : Int) (t : Tok) : PyProof.Rows.IntsAre [.int n t] [n] := .cons n t .nil
theorem ints_rev {a : List Value} {b : List Int} (h : PyProof.Rows.IntsAre a b) : PyProof.Rows.IntsAre a.reverse b.reverse := by
  induction h with
  | nil => exact .nil
  | cons n t _ ih => rw [List.reverse_cons, List.reverse_cons]; exact ints_app ih (ints_one n t)
end Mine
end
section -- DivT
open PySem PySem.Spec PySem.Calls PySem.W PyProof.Rows
namespace Mine
local macro_rules | `(tactic| walk_at "none") => `(tactic| fail "none")
theorem clear_DivT : True := by
  k_with_none
  w_top off
  exact True.intro

theorem div2n1n_ok (w : World) {mean : ExcName → Option Value} {mg mb : Str → Option Value}
    {dp un : Nat} {gd : Option (List Code)} {cn : Str} {cs : Scope} {a : Addr} {ccd : Value} {cl : List (Str × Addr)} {outer : List Env} {A₀ : Around} {base h₀ : Heap} {L : Addr} {m : Str → Option Value} {s : Shared}
    {Q E : Value → Shared → Prop}
    (B : Below A₀ base outer h₀) (F : Fr h₀ L s.heap m) (X : (Mine.hd.heap_39 w.params).In h₀) (T : Top topProg Mine.loose39 mean mg mb h₀) (hk : cs.kind = .function) {x b n : Int} {t1 t2 t3 : Tok}
    (hd : dp + 1 < recursionLimit) (hu : un + 8 < cLine) (hb : 0 < b) (hb2 : b.natAbs.log2 < 9000) (hbit : ((Builtin.Int.intBits x : Nat) : Int) - n ≤ 4000)
    (hret : ∀ q h' tk' u v, ExtB [] s.heap h' → s.heap.get? q = none → h'.get? q = some { cls := .type "tuple", data := .seq #[.int (x / b) u, .int (x % b) v] } → Q (.ref q) { s with heap := h', toks := tk' }) : wpAny (model (PySem.Challenge.rw_ul0012_01).prog w) (ktrTop dp un gd cn cs L a ccd cl outer) (call (.ref 43) [.int x t1, .int b t2, .int n t3]) Q E s := by
  revert X; k_fill; intro X
  (refine wpAny_call ?_); k_dflt (refine' enterPK (S := []) (binds := [(Str.ofString "a", .int x t1), (Str.ofString "b", .int b t2), (Str.ofString "n", .int n t3)]) ?k1 ?k2 ?k3 ?k4 ?k5 ?kA ?kF ?kK ?k6 ?k7 ?k8 ?k9 ?kB ?_ ?c2 ?c3 ?c4 ?c5; (case kA => exact rfl); (case kF => exact rfl); (case kK => assumption); (case k1 => k_asm); (case k2 => k_asm); (case k3 => k_asm); (case k4 => first | exact News.nil | k_asm); (case k5 => k_asm); (case k6 => k_is); (case k7 => k_is); (case k8 => ktr_room); (case k9 => exact BindsTo.of_eq rfl); (case c5 => decide); (case kB => exact locs rfl); (case c2 => exact rfl); (case c3 => exact rfl); (case c4 => exact rfl); k_whole; intro g' L' h' FG' GX F' N' B' X' T' l0; (try dsimp only); (try k_fold); (try (change (let A0 := _; wpAny _ A0 _ _ _ _); intro A0)))
  k_steps
  rename Fr _ _ _ _ => FF; rename News _ _ _ _ => NN
  refine divmod_N FF NN (by omega) ?_ (Or.inl (PyProof.noPylong_of_log2 hb2))
  intro h2 F2 N2
  rw [Int.fdiv_eq_ediv_of_nonneg _ (Int.le_of_lt hb), Int.fmod_eq_emod_of_nonneg _ (Int.le_of_lt hb)] at N2
  k_steps
  have e := new_end GX N2 (.head _) (fun h => nomatch h)
  exact hret _ _ _ _ _ (ext_end GX F2) e.1 e.2
end Mine
end
section -- D2I
open PySem PySem.Spec PySem.Calls PySem.W PyProof.Rows
namespace Mine
local macro_rules | `(tactic| walk_at "none") => `(tactic| fail "none")
theorem clear_D2I : True := by
  k_with_none
  w_top off
  exact True.intro

local macro_rules | `(tactic| k_all) => `(tactic| assumption)
local macro_rules | `(tactic| walk_at "call ref") => `(tactic| k_extra "my call")
abbrev Q62 : Str := Str.ofString "_digits2int.<locals>.inner"
theorem digits2int_ok (w : World) {mean : ExcName → Option Value} {mg mb : Str → Option Value}
    {dp un : Nat} {gd : Option (List Code)} {cn : Str} {cs : Scope} {a : Addr} {ccd : Value} {cl : List (Str × Addr)} {outer : List Env} {A₀ : Around} {base h₀ : Heap} {L : Addr} {m : Str → Option Value} {s : Shared}
    {Q E : Value → Shared → Prop}
    (B : Below A₀ base outer h₀) (F : Fr h₀ L s.heap m) (X : (Mine.hd.heap_39 w.params).In h₀) (T : Top topProg Mine.loose39 mean mg mb h₀) (hk : cs.kind = .function) (C62 : CodeHd base 63 59) {l : Addr} {vs : List Value} {ds : List Int} {n : Int} {t1 : Tok} {tb : List (Addr × Obj)}
    (hd : dp + 200 < recursionLimit) (hu : un + 1600 < cLine) (N : News h₀ L s.heap tb) (hT : Tab 59 101 4 (Str.ofString "_digits2int.<locals>.inner") tb)
    (hl : s.heap.IsList l vs.toArray) (hltb : l ∉ tb.map (·.1)) (hv : IntsAre vs ds) (hlen : ds.length ≤ 64) (hn0 : 0 ≤ n) (hn1 : n ≤ 64) (hds : ∀ d ∈ ds, d.natAbs < 2 ^ 100)
    (hret : ∀ h' tk' tb' u, ExtB (tb.map (·.1)) s.heap h' → News h₀ L h' tb' → (∀ p ∈ tb', p.1 ∈ tb.map (·.1) ∨ s.heap.get? p.1 = none) → (∀ p ∈ tb, p.1 ∈ tb'.map (·.1)) → Tab 59 101 4 (Str.ofString "_digits2int.<locals>.inner") tb' → Q (.int (evalD n.toNat ds) u) { s with heap := h', toks := tk' }) : wpAny (model (PySem.Challenge.rw_ul0012_01).prog w) (ktrTop dp un gd cn cs L a ccd cl outer) (call (.ref 64) [.ref l, .int n t1]) Q E s := by
  revert X; k_fill; intro X
  (refine wpAny_call ?_); k_dflt (refine' enterCK (S := tb) (binds := [(Str.ofString "digits", .ref l), (Str.ofString "n", .int n t1)]) ?k1 ?k2 ?k3 ?k4 ?k5 ?kA ?kF ?kK ?k6 ?k7 ?k8 ?k9 ?kB ?kD ?_ ?c2 ?c3 ?c4; (case kA => exact rfl); (case kF => exact rfl); (case kK => assumption); (case k1 => k_asm); (case k2 => k_asm); (case k3 => k_asm); (case k4 => first | exact News.nil | k_asm); (case k5 => k_asm); (case k6 => k_is); (case k7 => k_is); (case k8 => ktr_room); (case k9 => exact BindsTo.of_eq rfl); (case kB => exact rfl); (case kD => decide +kernel); (case c2 => exact rfl); (case c3 => exact rfl); (case c4 => exact rfl); k_whole; intro g' L' h' tk' cells' FG' GX F' N' Y' B' X' T' l0; obtain ⟨o1', o2', o3', hE', e1', e2', e3'⟩ := CellsAre.three Y'; subst hE'; clear Y'; (try simp only [List.cons_append, List.nil_append] at N'); (try dsimp only); (try k_fold); (try (change (let A0 := _; wpAny _ A0 _ _ _ _); intro A0)))
  have hl' := IsList.ext hl GX hltb
  have l1 := low_lt X' F' (by rfl)
  k_steps
  k_dflt (refine' nestDef_K ?d0 ?k0 ?a0 ?_; (case d0 => exact rfl); (case k0 => exact rfl); (case a0 => exact rfl))
  have hs0 : ∀ q ∈ [(L' + 1 + 1 + 1, o1'), (L' + 1 + 1, o2'), (L' + 1, o3')], ∀ p ∈ tb, q.1 ≠ p.1 := by
    intro q hq p hp
    have h1 := l0 p hp
    simp only [List.mem_cons, List.not_mem_nil, or_false] at hq
    rcases hq with rfl | rfl | rfl <;> (refine neN ?_; have := ltN h1; omega)
  refine nestTab (qual := (Str.ofString "_digits2int.<locals>.inner")) (front := [(L' + 1 + 1 + 1, o1'), (L' + 1 + 1, o2'), (L' + 1, o3')]) F' N' T' (CodeHd.keeps C62 B'.stays) rfl hT hs0 ⟨_, .head _, by refine ltN ?_; dsimp only; omega⟩ rfl ?_
  intro f c' oc vs' t ctv doc h2 tk2 tb' F2 N2 hT2 d1 d2 hq l2 hs2 hsub
  simp only [List.cons_append, List.nil_append] at N2
  have q1 := hq _ (.head _); have q2 := hq _ (.tail _ (.head _)); have q3 := hq _ (.tail _ (.tail _ (.head _)))
  have q1a := ltN q1.1; have q2a := ltN q2.1; have q3a := ltN q3.1; have q1b := neN q1.2; have q2b := neN q2.2; have q3b := neN q3.2; have l2' := ltN l2
  dsimp only at q1a q2a q3a q1b q2b q3b
  have hA : ∀ p ∈ tb', p.1 ≠ L' + 1 + 1 + 1 := fun p hp => Ne.symm (hs2 _ (.head _) p hp)
  walk1
  rename_i h3 oi F3 N3 d3
  have e2 : o2'.data = .cell (some (.int n t1)) := e2'
  have e3 : o3'.data = .cell (some (.ref l)) := e3'
  dsimp only
  refine introS N3 ?_
  intro SS hSS NS
  have key : ∀ (k : Nat) (lo hi : Int), 0 ≤ lo → lo < hi → hi ≤ (ds.length : Int) → (hi - lo).toNat ≤ k → ∀ {dp un : Nat} {gd : Option (List Code)} {cn : Str} {cs : Scope} {a : Addr} {ccd : Value} {cl : List (Str × Addr)} {outer : List Env} {A₀ : Around} {h₀ : Heap} {L : Addr} {m : Str → Option Value} {s : Shared}
      {Q E : Value → Shared → Prop} {t t' : Tok}, Below A₀ base outer h₀ → Fr h₀ L s.heap m → (Mine.hd.heap_39 w.params).In h₀ → Top topProg Mine.loose39 mean mg mb h₀ → cs.kind = .function →
      (∀ b o, g'.get? b = some o → h₀.get? b = some o) → News h₀ L s.heap SS → dp + k < recursionLimit → un + 8 * k < cLine →
      (∀ h' tk' u, Fr h₀ L h' m → News h₀ L h' SS → Q (.int (evalD n.toNat (seg ds lo hi)) u) { s with heap := h', toks := tk' }) →
      wpAny (model (PySem.Challenge.rw_ul0012_01).prog w) (ktrTop dp un gd cn cs L a ccd cl outer) (call (.ref f) [.int lo t, .int hi t']) Q E s := by
    clear NS N3 F3
    subst hSS
    intro k
    induction k with
    | zero => intro lo hi h1 h2 h3 h4; omega
    | succ k IH =>
      intro lo hi h1 h2 h3 h4 dp un gd cn cs a ccd cl outer A₀ h₀ L m s Q E t t' B F X T hk HG N hd hu hret
      refine wpAny_call ?_
      k_dflt (refine' code_nest (binds := [(Str.ofString "L", .int lo t), (Str.ofString "R", .int hi t')]) ?k1 ?k2 ?k3 ?k4 ?k5 ?kA ?kF ?kK ?k6 ?k7 ?k8 ?k9 ?kB ?_ ?c2 ?c3 ?c4 ?c5; (case kA => exact rfl); (case kF => exact rfl); (case kK => assumption); (case k1 => k_asm); (case k2 => k_asm); (case k3 => k_asm); (case k4 => k_asm); (case k5 => k_asm); (case k6 => k_mem); (case k7 => exact codeRec_news (by k_asm) (by k_mem) (by assumption) (by assumption)); (case k8 => ktr_room); (case k9 => exact BindsTo.of_eq rfl); (case c5 => decide); (case kB => exact locs rfl); (case c2 => exact rfl); (case c3 => exact rfl); (case c4 => exact rfl); k_whole; intro g2 L2 h2' FG2 F2' N2' B2' X2' T2'; (try dsimp only); (try k_fold))
      have hl2 : g2.IsList l vs.toArray := stays_list (fun b o e => FG2.keep b o (HG b o e)) hl'
      have HG2 : ∀ b o, g'.get? b = some o → g2.get? b = some o := fun b o e => FG2.keep b o (HG b o e)
      have hM : (lo + hi).fdiv (2 ^ Int.toNat 1) = (lo + hi) / 2 := by rw [Int.fdiv_eq_ediv_of_nonneg _ (by decide)]; rfl
      obtain ⟨⟨m1, m2, m3, m4⟩, m5⟩ := mid_facts h1 h2 h3 hlen h4 hM
      clear hM
      have hb : ((lo + hi).fdiv (2 ^ Int.toNat 1) - lo) * n ≤ 64 * 64 := Int.mul_le_mul (by omega) hn1 hn0 (by decide)
      have hb0 : lo + 1 ≠ hi → 0 ≤ ((lo + hi).fdiv (2 ^ Int.toNat 1) - lo) * n := fun _ => Int.mul_nonneg (by omega) hn0
      have hd9 : dp + 1 + k < recursionLimit := by omega
      have hu9 : un + 3 + 8 * k < cLine := by omega
      k_with "my call" => (k_dflt (refine' IH _ _ ?a1 ?a2 ?a3 ?a4 ?b1 ?b2 ?b3 ?b4 ?b5 ?b6 ?b7 ?a5 ?a6 ?_; (case b1 => k_asm); (case b2 => k_asm); (case b3 => k_asm); (case b4 => k_asm); (case b5 => exact rfl); (case b6 => exact HG2); (case b7 => k_asm); (case a5 => exact hd9); (case a6 => exact hu9); (case a1 => omega); (case a2 => omega); (case a3 => omega); (case a4 => omega)); intro h9 tk9 u9 F9 N9; (try dsimp only); (try k_fold))
      k_with "binaryOp LShift int int" => (refine lshift_int (hb0 (by assumption)) ?_ ?_; focus (have hbb := PyProof.Rows.intBits_le (evalD_seg_bits (w := n.toNat) (lo := (lo + hi).fdiv (2 ^ Int.toNat 1)) (hi := hi) hds (by omega) hlen); omega))
      k_steps
      · rename Fr _ _ _ _ => kF; rename News _ _ _ _ => kN
        have hv1 : evalD n.toNat (seg ds lo hi) = ds.getD lo.toNat 0 := by rw [seg_one h1 (by assumption) h3, evalD_one]
        rw [← hv1]
        exact hret _ _ _ kF kN
      · rename Fr _ _ _ _ => kF; rename News _ _ _ _ => kN
        rw [d2i_step h1 (by omega) (by omega) h3 hn0]
        exact hret _ _ _ kF kN
  have hd9 : dp + 1 + 64 < recursionLimit := by omega
  have hu9 : un + 3 + 8 * 64 < cLine := by omega
  k_with "my call" => (k_dflt (refine' key 64 _ _ ?a1 ?a2 ?a3 ?a4 ?b1 ?b2 ?b3 ?b4 ?b5 ?b6 ?b7 ?a5 ?a6 ?_; (case b1 => k_asm); (case b2 => k_asm); (case b3 => k_asm); (case b4 => k_asm); (case b5 => exact rfl); (case b6 => exact (fun _ _ e => e)); (case b7 => exact NS); (case a5 => exact hd9); (case a6 => exact hu9); (case a1 => omega); (case a2 => omega); (case a3 => omega); (case a4 => omega)); intro h9 tk9 u9 F9 N9; (try dsimp only); (try k_fold))
  subst hSS
  k_steps
  · rename News _ _ _ _ => kN
    rw [seg_all]
    have N9' : News g' L' h9 tb' := cb_drop N9 fun p hp => .tail _ (.tail _ (.tail _ (.tail _ (.tail _ hp))))
    exact hret _ _ tb' _ (ext_end GX (by assumption)) (cb_drop kN fun p hp => .tail _ (.tail _ (.tail _ (.tail _ (.tail _ hp))))) (old_or_new GX N9') hsub hT2
  · rename News _ _ _ _ => kN
    have h0 : ds = [] := List.eq_nil_of_length_eq_zero (by omega)
    have hv0 : evalD n.toNat ds = 0 := by rw [h0]; rfl
    rw [hv0] at hret
    have N9' : News g' L' h3 tb' := cb_drop NS fun p hp => .tail _ (.tail _ (.tail _ (.tail _ (.tail _ hp))))
    exact hret _ _ tb' _ (ext_end GX (by assumption)) (cb_drop kN fun p hp => .tail _ (.tail _ (.tail _ (.tail _ (.tail _ hp))))) (old_or_new GX N9') hsub hT2
end Mine
end
section -- I2D
open PySem PySem.Spec PySem.Calls PySem.W PyProof.Rows
namespace Mine
theorem clear_I2D : True := by
  k_with_none
  w_top off
  exact True.intro

local macro_rules | `(tactic| k_all) => `(tactic| assumption)
local macro_rules | `(tactic| walk_at "call ref") => `(tactic| k_extra "my call")
local macro_rules | `(tactic| walk_at "binaryOp RShift int int") => `(tactic| k_extra "my rshift")
local macro_rules | `(tactic| walk_at "binaryOp LShift int int") => `(tactic| k_extra "my lshift")
theorem int2digits_ok (w : World) {mean : ExcName → Option Value} {mg mb : Str → Option Value}
    {dp un : Nat} {gd : Option (List Code)} {cn : Str} {cs : Scope} {a : Addr} {ccd : Value} {cl : List (Str × Addr)} {outer : List Env} {A₀ : Around} {base h₀ : Heap} {L : Addr} {m : Str → Option Value} {s : Shared}
    {Q E : Value → Shared → Prop}
    (B : Below A₀ base outer h₀) (F : Fr h₀ L s.heap m) (X : (Mine.hd.heap_39 w.params).In h₀) (T : Top topProg Mine.loose39 mean mg mb h₀) (hk : cs.kind = .function) (C55 : CodeHd base 56 52) {x n : Int} {t1 t2 : Tok} {tb : List (Addr × Obj)}
    (hd : dp + 200 < recursionLimit) (hu : un + 1600 < cLine) (N : News h₀ L s.heap tb) (hT : Tab 52 86 4 (Str.ofString "_int2digits.<locals>.inner") tb)
    (hx : 0 ≤ x) (hn0 : 1 ≤ n) (hn1 : n ≤ 64) (hxb : (Builtin.Int.intBits x : Int) ≤ 64 * n)
    (hret : ∀ q h' tk' tb' ys, ExtB (tb.map (·.1)) s.heap h' → s.heap.get? q = none → News h₀ L h' ((q, W.listOf ys.toArray 0) :: tb') → IntsAre ys (toD n.toNat x (numD x n)) → (∀ p ∈ tb', p.1 ≠ q) → (∀ p ∈ tb', p.1 ∈ tb.map (·.1) ∨ s.heap.get? p.1 = none) → (∀ p ∈ tb, p.1 ∈ tb'.map (·.1)) → Tab 52 86 4 (Str.ofString "_int2digits.<locals>.inner") tb' → Q (.ref q) { s with heap := h', toks := tk' }) : wpAny (model (PySem.Challenge.rw_ul0012_01).prog w) (ktrTop dp un gd cn cs L a ccd cl outer) (call (.ref 57) [.int x t1, .int n t2]) Q E s := by
  revert X; k_fill; intro X
  (refine wpAny_call ?_); k_dflt (refine' enterCK (S := tb) (binds := [(Str.ofString "a", .int x t1), (Str.ofString "n", .int n t2)]) ?k1 ?k2 ?k3 ?k4 ?k5 ?kA ?kF ?kK ?k6 ?k7 ?k8 ?k9 ?kB ?kD ?_ ?c2 ?c3 ?c4; (case kA => exact rfl); (case kF => exact rfl); (case kK => assumption); (case k1 => k_asm); (case k2 => k_asm); (case k3 => k_asm); (case k4 => first | exact News.nil | k_asm); (case k5 => k_asm); (case k6 => k_is); (case k7 => k_is); (case k8 => ktr_room); (case k9 => exact BindsTo.of_eq rfl); (case kB => exact rfl); (case kD => decide +kernel); (case c2 => exact rfl); (case c3 => exact rfl); (case c4 => exact rfl); k_whole; intro g' L' h' tk' cells' FG' GX F' N' Y' B' X' T' l0; obtain ⟨o1', o2', o3', hE', e1', e2', e3'⟩ := CellsAre.three Y'; subst hE'; clear Y'; (try simp only [List.cons_append, List.nil_append] at N'); (try dsimp only); (try k_fold); (try (change (let A0 := _; wpAny _ A0 _ _ _ _); intro A0)))
  have l1 := low_lt X' F' (by rfl)
  have hA1 : ∀ p ∈ tb, p.1 ≠ L' + 1 := fun p hp => by refine neN ?_; have := ltN (l0 p hp); omega
  have hA2 : ∀ p ∈ tb, p.1 ≠ L' + 1 + 1 := fun p hp => by refine neN ?_; have := ltN (l0 p hp); omega
  have hA3 : ∀ p ∈ tb, p.1 ≠ L' + 1 + 1 + 1 := fun p hp => by refine neN ?_; have := ltN (l0 p hp); omega
  have hKe : ((Builtin.Int.intBits x : Nat) + n - 1 : Int).fdiv n = ((numD x n : Nat) : Int) := by
    rw [Int.fdiv_eq_ediv_of_nonneg _ (by omega)]
    have := Int.ediv_nonneg (a := ((Builtin.Int.intBits x : Nat) + n - 1 : Int)) (b := n) (by omega) (by omega)
    unfold numD; omega
  have hK64 := numD_le hn0 hxb
  have hK0 : 0 ≤ ((Builtin.Int.intBits x : Nat) + n - 1 : Int).fdiv n := by omega
  have hK1 : ((Builtin.Int.intBits x : Nat) + n - 1 : Int).fdiv n ≤ 2 ^ 20 := by omega
  k_with "binaryOp Mult ref int" => (k_dflt (refine' mulList0 ?k1 ?k2 ?k3 ?k4 ?k5 ?_; (case k1 => k_asm); (case k2 => k_asm); (case k3 => k_mem); (case k4 => exact hK0); (case k5 => exact hK1)); intro q1 h1 F1 N1 lq; (simp only [AllLt] at lq))
  k_steps
  rename_i la h4 l1a h5 oA F5 N5 dA
  have hla := ktn_ltOf l1a.2.2.2
  have hlq := ktn_ltOf lq.2.2.2.2
  have k1 := ltN l1a.1; have k2 := ltN l1a.2.1; have k3 := ltN l1a.2.2.1; have k4 := ltN lq.1; have k5 := ltN lq.2.1; have k6 := ltN lq.2.2.1; have k7 := ltN lq.2.2.2.1
  k_dflt (refine' nestDef_K ?d0 ?k0 ?a0 ?_; (case d0 => exact rfl); (case k0 => exact rfl); (case a0 => exact rfl))
  have hIX := ints_rep tk' (numD x n)
  rw [hKe, Int.toNat_natCast] at N5
  generalize hX : (List.replicate (numD x n) (Value.int 0 tk')) = X0 at N5 hIX
  have hs0 : ∀ q ∈ [(q1, W.listOf X0.toArray 0), (la, W.listOf #[Value.int 0 tk'] 0), (L' + 1 + 1 + 1, o1'), (L' + 1 + 1, oA), (L' + 1, o3')], ∀ p ∈ tb, q.1 ≠ p.1 := by
    intro q hq p hp
    have h1 := ltN (l0 p hp); have h2 := ltN (hla p hp); have h3 := ltN (hlq p hp)
    simp only [List.mem_cons, List.not_mem_nil, or_false] at hq
    rcases hq with rfl | rfl | rfl | rfl | rfl <;> (refine neN ?_; omega)
  refine nestTab (qual := (Str.ofString "_int2digits.<locals>.inner")) (front := [(q1, W.listOf X0.toArray 0), (la, W.listOf #[Value.int 0 tk'] 0), (L' + 1 + 1 + 1, o1'), (L' + 1 + 1, oA), (L' + 1, o3')]) F5 N5 T' (CodeHd.keeps C55 B'.stays) rfl hT hs0 ⟨_, .tail _ (.tail _ (.head _)), by refine ltN ?_; dsimp only; omega⟩ rfl ?_
  intro f c' oc vs' t ctv doc h2 tk2 tb' F2 N2 hT2 d1 d2 hq l2 hs2 hsub
  simp only [List.cons_append, List.nil_append] at N2
  simp only [List.forall_mem_cons] at hq hs2
  obtain ⟨⟨qa1, qb1⟩, ⟨qa2, qb2⟩, ⟨qa3, qb3⟩, ⟨qa4, qb4⟩, ⟨qa5, qb5⟩, -⟩ := hq
  obtain ⟨hB1, hB2, hB3, hB4, hB5, -⟩ := hs2
  replace qa1 := ltN qa1; replace qa2 := ltN qa2; replace qa3 := ltN qa3; replace qa4 := ltN qa4; replace qa5 := ltN qa5; replace qb1 := neN qb1; replace qb2 := neN qb2; replace qb3 := neN qb3; replace qb4 := neN qb4; replace qb5 := neN qb5; have l2' := ltN l2
  have hC1 : ∀ p ∈ tb', p.1 ≠ q1 := fun p hp => Ne.symm (hB1 p hp)
  have hC3 : ∀ p ∈ tb', p.1 ≠ L' + 1 + 1 + 1 := fun p hp => Ne.symm (hB3 p hp)
  walk1
  rename_i h3 oi F3 N3 d3
  have e3 : o3'.data = .cell (some (.int n t2)) := e3'
  dsimp only
  refine introF N3 ?_
  intro fe hfe NS
  generalize hoZ : W.listOf #[Value.int 0 tk'] 0 = oZ at NS
  have key : ∀ (k : Nat) (x lo hi : Int) (xs : List Value) (ns : List Int), IntsAre xs ns → 0 ≤ x → x < 2 ^ (n * (hi - lo)).toNat → 0 ≤ lo → lo < hi → hi ≤ (ns.length : Int) → ns.length ≤ 64 → (hi - lo).toNat ≤ k → ∀ {dp un : Nat} {gd : Option (List Code)} {cn : Str} {cs : Scope} {a : Addr} {ccd : Value} {cl : List (Str × Addr)} {outer : List Env} {A₀ : Around} {h₀ : Heap} {L : Addr} {m : Str → Option Value} {s : Shared}
      {Q E : Value → Shared → Prop} {t t' t'' : Tok}, Below A₀ base outer h₀ → Fr h₀ L s.heap m → (Mine.hd.heap_39 w.params).In h₀ → Top topProg Mine.loose39 mean mg mb h₀ → cs.kind = .function →
      News h₀ L s.heap (fe :: (c', oc) :: (q1, W.listOf xs.toArray 0) :: (la, oZ) :: (L' + 1 + 1 + 1, oi) :: (L' + 1 + 1, oA) :: (L' + 1, o3') :: tb') → dp + k < recursionLimit → un + 8 * k < cLine →
      (∀ (h' : Heap) (tk' : Nat) (ys : List Value), Fr h₀ L h' m → News h₀ L h' (fe :: (c', oc) :: (q1, W.listOf ys.toArray 0) :: (la, oZ) :: (L' + 1 + 1 + 1, oi) :: (L' + 1 + 1, oA) :: (L' + 1, o3') :: tb') → IntsAre ys (ns.take lo.toNat ++ toD n.toNat x (hi - lo).toNat ++ ns.drop hi.toNat) → Q .none { s with heap := h', toks := tk' }) →
      wpAny (model (PySem.Challenge.rw_ul0012_01).prog w) (ktrTop dp un gd cn cs L a ccd cl outer) (call (.ref f) [.int x t, .int lo t', .int hi t'']) Q E s := by
    clear NS
    subst hfe
    intro k
    induction k with
    | zero => intro x lo hi xs ns _ _ _ h1 h2 h3 _ h4; omega
    | succ k IH =>
      intro x lo hi xs ns hI hx hxl h1 h2 h3 hxs h4 dp un gd cn cs a ccd cl outer A₀ h₀ L m s Q E t t' t'' B F X T hk N hd hu hret
      refine wpAny_call ?_
      k_dflt (refine' code_nest (binds := [(Str.ofString "x", .int x t), (Str.ofString "L", .int lo t'), (Str.ofString "R", .int hi t'')]) ?k1 ?k2 ?k3 ?k4 ?k5 ?kA ?kF ?kK ?k6 ?k7 ?k8 ?k9 ?kB ?_ ?c2 ?c3 ?c4 ?c5; (case kA => exact rfl); (case kF => exact rfl); (case kK => assumption); (case k1 => k_asm); (case k2 => k_asm); (case k3 => k_asm); (case k4 => k_asm); (case k5 => k_asm); (case k6 => k_mem); (case k7 => exact codeRec_news (by k_asm) (by k_mem) (by assumption) (by assumption)); (case k8 => ktr_room); (case k9 => exact BindsTo.of_eq rfl); (case c5 => decide); (case kB => exact locs rfl); (case c2 => exact rfl); (case c3 => exact rfl); (case c4 => exact rfl); k_whole; intro g2 L2 h2' FG2 F2' N2' B2' X2' T2'; (try dsimp only); (try k_fold))
      have hM : (lo + hi).fdiv (2 ^ Int.toNat 1) = (lo + hi) / 2 := by rw [Int.fdiv_eq_ediv_of_nonneg _ (by decide)]; rfl
      generalize hMM : (lo + hi).fdiv (2 ^ Int.toNat 1) = M at hM
      obtain ⟨⟨m1, m2, m3, m4⟩, m5⟩ := mid_facts h1 h2 h3 hxs h4 hM
      clear hM
      have hn0' : 0 ≤ n := Int.le_trans (by decide) hn0
      have hsh : lo + 1 ≠ hi → 0 ≤ (M - lo) * n := fun _ => Int.mul_nonneg (by omega) (by omega)
      have hsh1 : (M - lo) * n ≤ 64 * 64 := Int.mul_le_mul (by omega) hn1 (by omega) (by decide)
      have hfd : x.fdiv (2 ^ ((M - lo) * n).toNat) = x / 2 ^ ((M - lo) * n).toNat := Int.fdiv_eq_ediv_of_nonneg _ (Int.le_of_lt (Int.pow_pos (by decide)))
      have hxo := xor_low hx ((M - lo) * n).toNat
      have fA1 : 0 ≤ Builtin.bitXor x (x.fdiv (2 ^ ((M - lo) * n).toNat) * 2 ^ ((M - lo) * n).toNat) := by rw [hxo]; exact Int.emod_nonneg _ (Int.ne_of_gt (Int.pow_pos (by decide)))
      have fA2 : Builtin.bitXor x (x.fdiv (2 ^ ((M - lo) * n).toNat) * 2 ^ ((M - lo) * n).toNat) < 2 ^ (n * (M - lo)).toNat := by rw [hxo]; exact pow_lo
      have fB1 : 0 ≤ x.fdiv (2 ^ ((M - lo) * n).toNat) := by rw [hfd]; exact Int.ediv_nonneg hx (Int.le_of_lt (Int.pow_pos (by decide)))
      have fB2 : x.fdiv (2 ^ ((M - lo) * n).toNat) < 2 ^ (n * (hi - M)).toNat := by rw [hfd]; exact pow_hi (by omega) (by omega) (by omega) hxl
      have hjl := toD_len_join (ns := ns) (w := n.toNat) (lo := lo) (M := M) (x := Builtin.bitXor x (x.fdiv (2 ^ ((M - lo) * n).toNat) * 2 ^ ((M - lo) * n).toNat)) h1 (by omega) (by omega)
      have hd9 : dp + 1 + k < recursionLimit := by omega
      have hu9 : un + 3 + 8 * k < cLine := by omega
      have hxb : Builtin.Int.intBits x ≤ 320000 := bits_pow hx (by omega) hn1 h1 (by omega) hxl
      have hbb : Builtin.Int.intBits (x.fdiv (2 ^ ((M - lo) * n).toNat)) ≤ 320000 := intBits_fdiv_le hxb
      k_with "my rshift" => (refine rshift_int (by first | decide | exact hsh (by assumption)) ?_; (try simp only [hMM]))
      k_with "my lshift" => (refine lshift_int (hsh (by assumption)) ?_ ?_; focus omega)
      k_with "my call" => (k_dflt (refine' IH _ _ _ _ _ ?a8 ?a9 ?a0 ?a1 ?a2 ?a3 ?a7 ?a4 ?b1 ?b2 ?b3 ?b4 ?b5 ?b7 ?a5 ?a6 ?_; (case b1 => k_asm); (case b2 => k_asm); (case b3 => k_asm); (case b4 => k_asm); (case b5 => exact rfl); (case b7 => k_asm); (case a5 => exact hd9); (case a6 => exact hu9); (case a8 => assumption); (case a9 => first | exact fA1 | exact fB1); (case a0 => first | exact fA2 | exact fB2); (case a1 => omega); (case a2 => omega); (case a3 => first | (rw [hjl]; omega) | omega); (case a7 => first | (rw [hjl]; omega) | omega); (case a4 => omega)); intro h9 tk9 ys9 F9 N9 I9; (try dsimp only); (try k_fold))
      k_steps
      · rename Fr _ _ _ _ => kF; rename News _ _ _ _ => kN; rename IntsAre _ _ => kI
        have hlt : x < 2 ^ n.toNat := by
          have e : hi - lo = 1 := by omega
          rw [e, Int.mul_one] at hxl; exact hxl
        rw [← set_take h1 (by assumption) h3 hx hlt] at kI
        exact hret _ _ _ kF kN kI
      · rename Fr _ _ _ _ => kF; rename News _ _ _ _ => kN; rename IntsAre _ _ => kI
        rw [hxo, hfd, i2d_join rfl (by omega) h1 (by omega) (by omega) h3] at kI
        exact hret _ _ _ kF kN kI
  have hd9 : dp + 1 + 64 < recursionLimit := by omega
  have hu9 : un + 3 + 8 * 64 < cLine := by omega
  have hlt := numD_lt hx hn0
  have hlr : (List.replicate (numD x n) (0 : Int)).length = numD x n := List.length_replicate
  have hpos : x ≠ 0 → 0 < numD x n := numD_pos hn0
  k_with "my call" => (k_dflt (refine' key 64 _ _ _ _ _ hIX ?a9 ?a0 ?a1 ?a2 ?a3 ?a7 ?a4 ?b1 ?b2 ?b3 ?b4 ?b5 ?b7 ?a5 ?a6 ?_; (case b1 => k_asm); (case b2 => k_asm); (case b3 => k_asm); (case b4 => k_asm); (case b5 => exact rfl); (case b7 => k_asm); (case a5 => exact hd9); (case a6 => exact hu9); (case a9 => exact hx); (case a0 => (rw [hlr, Int.sub_zero]; exact hlt)); (case a1 => decide); (case a2 => rw [hlr]; omega); (case a3 => rw [hlr]; omega); (case a7 => rw [hlr]; omega); (case a4 => rw [hlr]; omega)); intro h9 tk9 ys9 F9 N9 I9; (try dsimp only); (try k_fold))
  subst hfe
  k_steps
  · rename News _ _ _ _ => kN
    have hqt : q1 ∉ tb.map (·.1) := fun hm => by
      obtain ⟨p, hp, e⟩ := List.mem_map.mp hm
      exact absurd e (Nat.ne_of_lt (hlq p hp))
    have e9 := new_end GX N9 (.tail _ (.tail _ (.head _))) hqt
    have eI : List.take (Int.toNat 0) (List.replicate (numD x n) (0 : Int)) ++ toD n.toNat x ((((List.replicate (numD x n) (0 : Int)).length : Int)) - 0).toNat ++ List.drop (((List.replicate (numD x n) (0 : Int)).length : Int)).toNat (List.replicate (numD x n) (0 : Int)) = toD n.toNat x (numD x n) := by
      rw [hlr]; simp
    rw [eI] at I9
    have N9' : News g' L' h9 tb' := cb_drop N9 fun p hp => .tail _ (.tail _ (.tail _ (.tail _ (.tail _ (.tail _ (.tail _ hp))))))
    refine hret _ _ _ tb' ys9 (ext_end GX (by assumption)) e9.1 (cb_drop kN fun p hp => ?_) I9 hC1 (old_or_new GX N9') hsub hT2
    rcases List.mem_cons.mp hp with rfl | hp
    · exact .tail _ (.tail _ (.head _))
    · exact .tail _ (.tail _ (.tail _ (.tail _ (.tail _ (.tail _ (.tail _ hp))))))
  · rename News _ _ _ _ => kN
    have hqt : q1 ∉ tb.map (·.1) := fun hm => by
      obtain ⟨p, hp, e⟩ := List.mem_map.mp hm
      exact absurd e (Nat.ne_of_lt (hlq p hp))
    have e9 := new_end GX NS (.tail _ (.tail _ (.head _))) hqt
    have hx0 : x = 0 := by omega
    have eI : List.replicate (numD x n) (0 : Int) = toD n.toNat x (numD x n) := by
      rw [hx0, numD_zero hn0]; rfl
    rw [eI] at hIX
    have N9' : News g' L' h3 tb' := cb_drop NS fun p hp => .tail _ (.tail _ (.tail _ (.tail _ (.tail _ (.tail _ (.tail _ hp))))))
    refine hret _ _ _ tb' X0 (ext_end GX (by assumption)) e9.1 (cb_drop kN fun p hp => ?_) hIX hC1 (old_or_new GX N9') hsub hT2
    rcases List.mem_cons.mp hp with rfl | hp
    · exact .tail _ (.tail _ (.head _))
    · exact .tail _ (.tail _ (.tail _ (.tail _ (.tail _ (.tail _ (.tail _ hp))))))
end Mine
end
section -- Use
open PySem PySem.Spec PySem.Calls PySem.W PyProof.Rows
namespace Mine

/-- front and tables lie apart -/
noncomputable def Sep (front tb : List (Addr × Obj)) : Prop := ∀ q ∈ front, ∀ p ∈ tb, q.1 ≠ p.1
abbrev Tab27 (t : List (Addr × Obj)) : Prop := Tab 24 46 4 (Str.ofString "_str_to_int_inner.<locals>.inner") t
abbrev Tab55 (t : List (Addr × Obj)) : Prop := Tab 52 86 4 (Str.ofString "_int2digits.<locals>.inner") t
abbrev Tab62 (t : List (Addr × Obj)) : Prop := Tab 59 101 4 (Str.ofString "_digits2int.<locals>.inner") t
structure TabsAre (t27 t55 t62 tb : List (Addr × Obj)) : Prop where
  eq : tb = t27 ++ (t55 ++ t62)
  a : Tab27 t27
  b : Tab55 t55
  c : Tab62 t62
  ab : ∀ p ∈ t27, ∀ q ∈ t55, p.1 ≠ q.1
  ac : ∀ p ∈ t27, ∀ q ∈ t62, p.1 ≠ q.1
  bc : ∀ p ∈ t55, ∀ q ∈ t62, p.1 ≠ q.1
noncomputable def Tabs (tb : List (Addr × Obj)) : Prop := ∃ t27 t55 t62, TabsAre t27 t55 t62 tb
theorem mapMem {p : Addr × Obj} {t : List (Addr × Obj)} (h : p.1 ∈ t.map (·.1)) : ∃ q ∈ t, q.1 = p.1 := List.mem_map.mp h
/-- a list of facts at the start, one part renewed -/
theorem news_renew {h₀ h h' : Heap} {L : Addr} {keepers old new : List (Addr × Obj)} (e : ExtB (old.map (·.1)) h h') (N : News h₀ L h keepers) (hk : ∀ q ∈ keepers, ∀ p ∈ old, q.1 ≠ p.1) : News h₀ L h' keepers :=
  e.news N fun q hq hm => by
    obtain ⟨p, hp, he⟩ := List.mem_map.mp hm
    exact hk q hq p hp he.symm
theorem apart_new {h₀ h : Heap} {L : Addr} {keepers old new : List (Addr × Obj)} (N : News h₀ L h keepers) (hk : ∀ q ∈ keepers, ∀ p ∈ old, q.1 ≠ p.1) (hn : ∀ p ∈ new, p.1 ∈ old.map (·.1) ∨ h.get? p.1 = none) : ∀ q ∈ keepers, ∀ p ∈ new, q.1 ≠ p.1 := fun q hq p hp e => by
  rcases hn p hp with hm | hm
  · obtain ⟨p', hp', he⟩ := mapMem hm
    exact hk q hq p' hp' (e.trans he.symm)
  · rw [← e, (N q hq).1] at hm; cases hm
theorem ext_fr {h₀ h h' : Heap} {L : Addr} {m : Str → Option Value} {old : List (Addr × Obj)} (e : ExtB (old.map (·.1)) h h') (F : Fr h₀ L h m) (N : News h₀ L h old) : Fr h₀ L h' m :=
  e.fr F fun b hb => by
    obtain ⟨p, hp, he⟩ := List.mem_map.mp hb
    exact ⟨he ▸ (N p hp).2.2, he ▸ (N p hp).2.1⟩
theorem news_app {h₀ h : Heap} {L : Addr} {a b : List (Addr × Obj)} (x : News h₀ L h a) (y : News h₀ L h b) : News h₀ L h (a ++ b) := fun p hp => (List.mem_append.mp hp).elim (x p) (y p)
theorem news_cons {h₀ h h' : Heap} {L q : Addr} {o : Obj} {b : List (Addr × Obj)} (F : Fr h₀ L h m) (hn : h.get? q = none) (ho : h'.get? q = some o) (y : News h₀ L h' b) : News h₀ L h' ((q, o) :: b) := fun p hp => by
  rcases List.mem_cons.mp hp with rfl | hp
  · refine ⟨ho, fun e => ?_, ?_⟩
    · obtain ⟨oL, _, _, hL, _⟩ := F.ns
      rw [show q = L from e, hL] at hn; cases hn
    · cases z : h₀.get? q with
      | none => rfl
      | some o' => rw [F.keep _ _ z] at hn; cases hn
  · exact y p hp
theorem ne_new {h₀ h : Heap} {L q : Addr} {b : List (Addr × Obj)} (N : News h₀ L h b) (hn : h.get? q = none) : ∀ p ∈ b, p.1 ≠ q := fun p hp e => by
  rw [← e, (N p hp).1] at hn; cases hn
theorem sub_left {a b : List (Addr × Obj)} {h₀ h : Heap} {L : Addr} (N : News h₀ L h (a ++ b)) : News h₀ L h a := fun p hp => N p (List.mem_append_left _ hp)
theorem sub_right {a b : List (Addr × Obj)} {h₀ h : Heap} {L : Addr} (N : News h₀ L h (a ++ b)) : News h₀ L h b := fun p hp => N p (List.mem_append_right _ hp)

theorem int2digits_use (w : World) {mean : ExcName → Option Value} {mg mb : Str → Option Value}
    {dp un : Nat} {gd : Option (List Code)} {cn : Str} {cs : Scope} {a : Addr} {ccd : Value} {cl : List (Str × Addr)} {outer : List Env} {A₀ : Around} {base h₀ : Heap} {L : Addr} {m : Str → Option Value} {s : Shared}
    {Q E : Value → Shared → Prop}
    (B : Below A₀ base outer h₀) (F : Fr h₀ L s.heap m) (X : (Mine.hd.heap_39 w.params).In h₀) (T : Top topProg Mine.loose39 mean mg mb h₀) (hk : cs.kind = .function) (C55 : CodeHd base 56 52) {x n : Int} {t1 t2 : Tok} {front tb : List (Addr × Obj)}
    (N : News h₀ L s.heap (front ++ tb)) (hT : Tabs tb) (hs : Sep front tb)
    (hd : dp + 200 < recursionLimit) (hu : un + 1600 < cLine) (hx : 0 ≤ x) (hn0 : 1 ≤ n) (hn1 : n ≤ 64) (hxb : (Builtin.Int.intBits x : Int) ≤ 64 * n)
    (hret : ∀ q h' tk' tb' ys, Fr h₀ L h' m → News h₀ L h' ((q, W.listOf ys.toArray 0) :: (front ++ tb')) → Tabs tb' → Sep front tb' → (∀ p ∈ front, p.1 ≠ q) → (∀ p ∈ tb', p.1 ≠ q) → IntsAre ys (toD n.toNat x (numD x n)) → ExtB (tb.map (·.1)) s.heap h' → (∀ p ∈ tb, p.1 ∈ tb'.map (·.1)) → Q (.ref q) { s with heap := h', toks := tk' }) : wpAny (model (PySem.Challenge.rw_ul0012_01).prog w) (ktrTop dp un gd cn cs L a ccd cl outer) (call (.ref 57) [.int x t1, .int n t2]) Q E s := by
  obtain ⟨t27, t55, t62, T3⟩ := hT
  have e := T3.eq
  subst e
  have Nt := sub_right N
  have N55 : News h₀ L s.heap t55 := sub_left (sub_right Nt)
  have N27 : News h₀ L s.heap t27 := sub_left Nt
  have N62 : News h₀ L s.heap t62 := sub_right (sub_right Nt)
  have Nf : News h₀ L s.heap front := sub_left N
  have hf55 : ∀ q ∈ front, ∀ p ∈ t55, q.1 ≠ p.1 := fun q hq p hp => hs q hq p (List.mem_append_right _ (List.mem_append_left _ hp))
  refine int2digits_ok w B F X T hk C55 hd hu N55 T3.b hx hn0 hn1 hxb fun q h' tk' t' ys e hq N' I hne hfr hsb hT' => ?_
  have Nn : News h₀ L h' t' := fun p hp => N' p (.tail _ hp)
  have Nf' := news_renew (new := t') e Nf hf55
  have N27' := news_renew (new := t') e N27 T3.ab
  have N62' := news_renew (new := t') e N62 fun q hq p hp => Ne.symm (T3.bc p hp q hq)
  refine hret q h' tk' (t27 ++ (t' ++ t62)) ys (ext_fr e F N55) ?_ ⟨t27, t', t62, rfl, T3.a, hT', T3.c, apart_new N27 T3.ab hfr, T3.ac, fun p hp q hq => Ne.symm (apart_new N62 (fun q hq p hp => Ne.symm (T3.bc p hp q hq)) hfr q hq p hp)⟩ ?_ ?_ ?_ I ?_ ?_
  · intro p hp
    rcases List.mem_cons.mp hp with rfl | hp
    · exact N' _ (.head _)
    · exact news_app Nf' (news_app N27' (news_app Nn N62')) p hp
  · intro q hq p hp
    rcases List.mem_append.mp hp with hp | hp
    · exact hs q hq p (List.mem_append_left _ hp)
    · rcases List.mem_append.mp hp with hp | hp
      · exact apart_new Nf hf55 hfr q hq p hp
      · exact hs q hq p (List.mem_append_right _ (List.mem_append_right _ hp))
  · exact ne_new Nf hq
  · intro p hp
    rcases List.mem_append.mp hp with hp | hp
    · exact ne_new N27 hq p hp
    · rcases List.mem_append.mp hp with hp | hp
      · exact hne p hp
      · exact ne_new N62 hq p hp
  · intro b o hb hn
    exact e b o hb fun hm => hn (by rw [List.map_append, List.map_append]; exact List.mem_append_right _ (List.mem_append_left _ hm))
  · intro p hp
    rw [List.map_append, List.map_append]
    rcases List.mem_append.mp hp with hp | hp
    · exact List.mem_append_left _ (List.mem_map_of_mem hp)
    · rcases List.mem_append.mp hp with hp | hp
      · exact List.mem_append_right _ (List.mem_append_left _ (hsb p hp))
      · exact List.mem_append_right _ (List.mem_append_right _ (List.mem_map_of_mem hp))

theorem digits2int_use (w : World) {mean : ExcName → Option Value} {mg mb : Str → Option Value}
    {dp un : Nat} {gd : Option (List Code)} {cn : Str} {cs : Scope} {a : Addr} {ccd : Value} {cl : List (Str × Addr)} {outer : List Env} {A₀ : Around} {base h₀ : Heap} {L : Addr} {m : Str → Option Value} {s : Shared}
    {Q E : Value → Shared → Prop}
    (B : Below A₀ base outer h₀) (F : Fr h₀ L s.heap m) (X : (Mine.hd.heap_39 w.params).In h₀) (T : Top topProg Mine.loose39 mean mg mb h₀) (hk : cs.kind = .function) (C62 : CodeHd base 63 59) {l : Addr} {vs : List Value} {ds : List Int} {n : Int} {t1 : Tok} {front tb : List (Addr × Obj)}
    (N : News h₀ L s.heap (front ++ tb)) (hT : Tabs tb) (hs : Sep front tb)
    (hd : dp + 200 < recursionLimit) (hu : un + 1600 < cLine) (hl : s.heap.IsList l vs.toArray) (hltb : ∀ p ∈ tb, p.1 ≠ l) (hv : IntsAre vs ds) (hlen : ds.length ≤ 64) (hn0 : 0 ≤ n) (hn1 : n ≤ 64) (hds : ∀ d ∈ ds, d.natAbs < 2 ^ 100)
    (hret : ∀ h' tk' tb' u, Fr h₀ L h' m → News h₀ L h' (front ++ tb') → Tabs tb' → Sep front tb' → ExtB (tb.map (·.1)) s.heap h' → (∀ p ∈ tb, p.1 ∈ tb'.map (·.1)) → Q (.int (evalD n.toNat ds) u) { s with heap := h', toks := tk' }) : wpAny (model (PySem.Challenge.rw_ul0012_01).prog w) (ktrTop dp un gd cn cs L a ccd cl outer) (call (.ref 64) [.ref l, .int n t1]) Q E s := by
  obtain ⟨t27, t55, t62, T3⟩ := hT
  have e := T3.eq
  subst e
  have Nt := sub_right N
  have N55 : News h₀ L s.heap t55 := sub_left (sub_right Nt)
  have N27 : News h₀ L s.heap t27 := sub_left Nt
  have N62 : News h₀ L s.heap t62 := sub_right (sub_right Nt)
  have Nf : News h₀ L s.heap front := sub_left N
  have hf62 : ∀ q ∈ front, ∀ p ∈ t62, q.1 ≠ p.1 := fun q hq p hp => hs q hq p (List.mem_append_right _ (List.mem_append_right _ hp))
  have hl62 : l ∉ t62.map (·.1) := fun hm => by
    obtain ⟨p, hp, he⟩ := List.mem_map.mp hm
    exact hltb p (List.mem_append_right _ (List.mem_append_right _ hp)) he
  refine digits2int_ok w B F X T hk C62 hd hu N62 T3.c hl hl62 hv hlen hn0 hn1 hds fun h' tk' t' u e N' hfr hsb hT' => ?_
  have Nf' := news_renew (new := t') e Nf hf62
  have N27' := news_renew (new := t') e N27 T3.ac
  have N55' := news_renew (new := t') e N55 T3.bc
  refine hret h' tk' (t27 ++ (t55 ++ t')) u (ext_fr e F N62) (news_app Nf' (news_app N27' (news_app N55' N'))) ⟨t27, t55, t', rfl, T3.a, T3.b, hT', T3.ab, apart_new N27 T3.ac hfr, apart_new N55 T3.bc hfr⟩ ?_ ?_ ?_
  · intro q hq p hp
    rcases List.mem_append.mp hp with hp | hp
    · exact hs q hq p (List.mem_append_left _ hp)
    · rcases List.mem_append.mp hp with hp | hp
      · exact hs q hq p (List.mem_append_right _ (List.mem_append_left _ hp))
      · exact apart_new Nf hf62 hfr q hq p hp
  · intro b o hb hn
    exact e b o hb fun hm => hn (by rw [List.map_append, List.map_append]; exact List.mem_append_right _ (List.mem_append_right _ hm))
  · intro p hp
    rw [List.map_append, List.map_append]
    rcases List.mem_append.mp hp with hp | hp
    · exact List.mem_append_left _ (List.mem_map_of_mem hp)
    · rcases List.mem_append.mp hp with hp | hp
      · exact List.mem_append_right _ (List.mem_append_left _ (List.mem_map_of_mem hp))
      · exact List.mem_append_right _ (List.mem_append_right _ (hsb p hp))

theorem div2n1n_use (w : World) {mean : ExcName → Option Value} {mg mb : Str → Option Value}
    {dp un : Nat} {gd : Option (List Code)} {cn : Str} {cs : Scope} {a : Addr} {ccd : Value} {cl : List (Str × Addr)} {outer : List Env} {A₀ : Around} {base h₀ : Heap} {L : Addr} {m : Str → Option Value} {s : Shared}
    {Q E : Value → Shared → Prop}
    (B : Below A₀ base outer h₀) (F : Fr h₀ L s.heap m) (X : (Mine.hd.heap_39 w.params).In h₀) (T : Top topProg Mine.loose39 mean mg mb h₀) (hk : cs.kind = .function) {x b n : Int} {t1 t2 t3 : Tok} {news : List (Addr × Obj)} (N : News h₀ L s.heap news)
    (hd : dp + 1 < recursionLimit) (hu : un + 8 < cLine) (hb : 0 < b) (hb2 : b.natAbs.log2 < 9000) (hbit : ((Builtin.Int.intBits x : Nat) : Int) - n ≤ 4000)
    (hret : ∀ q h' tk' u v, Fr h₀ L h' m → News h₀ L h' ((q, { cls := .type "tuple", data := .seq #[.int (x / b) u, .int (x % b) v] }) :: news) → (∀ p ∈ news, p.1 ≠ q) → Q (.ref q) { s with heap := h', toks := tk' }) : wpAny (model (PySem.Challenge.rw_ul0012_01).prog w) (ktrTop dp un gd cn cs L a ccd cl outer) (call (.ref 43) [.int x t1, .int b t2, .int n t3]) Q E s := by
  refine div2n1n_ok w B F X T hk hd hu hb hb2 hbit fun q h' tk' u v e hq ho => ?_
  exact hret q h' tk' u v (e.fr F fun _ h => nomatch h) (news_cons F hq ho (e.news N fun _ _ h => nomatch h)) (ne_new N hq)
end Mine
end
section -- Comp
open PySem PySem.Spec PySem.Calls PySem.W PyProof.Rows
namespace Mine
open LCg (NsObj lst)
/-- the ledger lies apart from the block's own three -/
structure CApart (I C D : Addr) (nw : List (Addr × Obj)) : Prop where
  off : ∀ p ∈ nw, p.1 ≠ I ∧ p.1 ≠ C ∧ p.1 ≠ D
  ic : @Ne Nat I C
  id : @Ne Nat I D
  cd : @Ne Nat C D
noncomputable def EltEnd (h₀ : Heap) (L : Addr) (m : Str → Option Value) (s : Shared) (I : Addr) (oI : Obj) (C : Addr) (oC : Obj) (D : Addr) (ys : List Value) (K : List (Addr × Obj) → Prop) (s' : Shared) : Prop :=
  ∃ h' tk' dr' nw', s' = { s with heap := h', toks := tk', drawn := dr' } ∧ Fr h₀ L h' m ∧ News h₀ L h' ((I, oI) :: (C, oC) :: (D, lst ys) :: nw') ∧ CApart I C D nw' ∧ K nw'
abbrev CompI (h₀ : Heap) (L : Addr) (m : Str → Option Value) (s : Shared) (I : Addr) (n : Nat) (St : Nat → Heap → Prop) (J : Nat → List Value → List (Addr × Obj) → Prop) (D : Addr) (k : Nat) (s' : Shared) : Prop :=
  ∃ h tk dr i ys m' nw, s' = { s with heap := h, toks := tk, drawn := dr } ∧ i ≤ n ∧ k = n + 1 - i ∧ St i h ∧ Fr h₀ L h m ∧ h.Ns (D + 1) m' ∧ News h₀ L h ((D, lst ys) :: nw) ∧ CApart I (D + 1) D nw ∧ J i ys nw
section
variable {prog : Program} {w : World} {A : Around} {E : Value → Shared → Prop} {s : Shared} {h₀ : Heap} {L : Addr} {m : Str → Option Value} {env : Env}
structure CompOK (prog : Program) (w : World) (A : Around) (h₀ : Heap) (L : Addr) (m : Str → Option Value) (env : Env) (elt : Expr) (ifs : List Expr) (x : Str) (scope : Scope) (cl : List (Str × Addr)) (s : Shared) (I : Addr) (fp : List Addr) (n : Nat) (P : Nat → Value → Prop) (St : Nat → Heap → Prop)
    (fpo : List (Addr × Obj)) (o₀ : Obj) (news : List (Addr × Obj)) (J : Nat → List Value → List (Addr × Obj) → Prop) : Prop where
  walk : Walks prog w A I fp [I] n P St
  small : n ≤ sizeLine
  live : ∀ i h, St i h → ∃ o, h.get? I = some o
  stands : ∀ b ∈ fp, b = I ∨ ∃ o, (b, o) ∈ fpo
  kept : ∀ i ys nw, J i ys nw → ∀ p ∈ fpo, p ∈ nw ∨ h₀.get? p.1 = some p.2
  fr : Fr h₀ L s.heap m
  nws : News h₀ L s.heap ((I, o₀) :: news)
  off : ∀ p ∈ news, p.1 ≠ I
  st : St 0 s.heap
  low : ∀ b ∈ fp, b < s.heap.objs.size
  zero : J 0 [] news
  len : ∀ i ys nw, J i ys nw → ys.length ≤ i
  step : ∀ i v oI C oC D ys nw m₂ h tk dr (E' : Value → Shared → Prop), i < n → P i v → J i ys nw → NsObj oC m₂ → m₂ x = some v → Fr h₀ L h m → News h₀ L h ((I, oI) :: (C, oC) :: (D, lst ys) :: nw) → CApart I C D nw →
    wpAny (model prog w) A (forIn ifs true fun c r => if r = true then do let ok ← isTrue c (compEnvC scope cl C env) (eval c (compEnvC scope cl C env)); pure (ForInStep.yield ok) else pure (ForInStep.yield r)) (fun ok s₃ =>
      if ok = true then wpAny (model prog w) A (eval elt (compEnvC scope cl C env)) (fun y s₄ => EltEnd h₀ L m s I oI C oC D ys (J (i + 1) (ys ++ [y])) s₄) E' s₃
      else EltEnd h₀ L m s I oI C oC D ys (J (i + 1) ys) s₃) E' { s with heap := h, toks := tk, drawn := dr }

theorem fr_but1 {h h' : Heap} {I : Addr} (F : Fr h₀ L h m) (e : ∀ b o, b ∉ [I] → h.get? b = some o → h'.get? b = some o) (h1 : I ≠ L) (h2 : h₀.get? I = none) : Fr h₀ L h' m :=
  ⟨F.ns.at' fun o z => e _ o (fun q => h1 (List.mem_singleton.mp q).symm) z, fun b o z => e b o (fun q => by rw [List.mem_singleton.mp q, h2] at z; cases z) (F.keep b o z), F.above⟩

theorem compBlock {elt iter : Expr} {ifs : List Expr} {x : Str} {px : Pos} {scope : Scope} {cl : List (Str × Addr)} {pos : Pos} {I : Addr} {fp : List Addr} {n : Nat} {P : Nat → Value → Prop} {St : Nat → Heap → Prop} {fpo : List (Addr × Obj)} {o₀ : Obj} {news : List (Addr × Obj)} {J : Nat → List Value → List (Addr × Obj) → Prop}
    {RR : Value → Addr → Result → Shared → Prop} (O : CompOK prog w A h₀ L m env elt ifs x scope cl s I fp n P St fpo o₀ news J)
    (hcell : ∀ y ∈ scope.names, y.2 ≠ .cell) (hkind : scope.kind = .function) (hx : scope.names.lookup x = some .local)
    (hRR : ∀ D C h tk dr m' ys nw, J n ys nw → Fr h₀ L h m → News h₀ L h ((D, lst ys) :: nw) → (∀ p ∈ nw, p.1 ≠ D ∧ p.1 ≠ C) → h.Ns C m' → C ≠ L → h₀.get? C = none → @Ne Nat C D → RR (.ref D) C (.ok .next) { s with heap := h, toks := tk, drawn := dr }) :
    wpAny (model prog w) A (newList []) (fun acc s₃ => wpAny (model prog w) A (newFunctionEnv scope env.globals cl [] env.qual none .none (some env)) (fun cenv s₄ =>
      codeAny (model prog w) A (.compStart (.ListComp elt [⟨.Name x px, iter, ifs, 0⟩] scope pos) 0 (.ref I) acc { cenv with scope := relabel scope env }) (RR acc cenv.locals) s₄) E s₃) E s := by
  have hIL := (O.nws _ (.head _)).2
  refine wpAny_newObj_type (wpAny_newFunctionEnv hcell (by intro y hy; simp at hy) (fun h₁ hns hsb => ?_) hkind)
  dsimp only at hns hsb ⊢
  have z2 : (s.heap.push { cls := .type "list", dict := none, data := .seq ([] : List Value).toArray }).objs.size = s.heap.objs.size + 1 := Heap.size_push ..
  rw [z2] at hns hsb ⊢
  have old : ∀ b o, s.heap.get? b = some o → h₁.get? b = some o := fun b o e =>
    hsb.extBut b o (Nat.ne_of_lt (Nat.lt_succ_of_lt (Heap.lt_size e))) (Heap.get?_push_of_some _ (Heap.get?_push_of_some _ e))
  have hD1 : h₁.get? s.heap.objs.size = some (lst []) := hsb.extBut _ _ (Nat.ne_of_lt (Nat.lt_succ_self _)) (Heap.get?_push_of_some _ (Heap.get?_push_size _ rfl))
  have none₀ : ∀ b, s.heap.objs.size ≤ b → h₀.get? b = none := fun b hb => Heap.get?_none_of_le (Nat.le_trans (Nat.le_of_lt (Nat.lt_of_le_of_lt O.fr.above O.fr.ns.lt)) hb)
  have neL : ∀ b, s.heap.objs.size ≤ b → b ≠ L := fun b hb => Nat.ne_of_gt (Nat.lt_of_lt_of_le O.fr.ns.lt hb)
  have hIlt : I < s.heap.objs.size := Heap.lt_size (O.nws _ (.head _)).1
  have hCD : @Ne Nat (s.heap.objs.size + 1) s.heap.objs.size := by omega
  have hIC : @Ne Nat I (s.heap.objs.size + 1) := by have : @LT.lt Nat _ I s.heap.objs.size := hIlt; omega
  have hID : @Ne Nat I s.heap.objs.size := by have : @LT.lt Nat _ I s.heap.objs.size := hIlt; omega
  have ap0 : CApart I (s.heap.objs.size + 1) s.heap.objs.size news := ⟨fun p hp => by
    have h1 : @LT.lt Nat _ p.1 s.heap.objs.size := Heap.lt_size (O.nws _ (.tail _ hp)).1
    exact ⟨O.off p hp, (by omega : @Ne Nat p.1 (s.heap.objs.size + 1)), (by omega : @Ne Nat p.1 s.heap.objs.size)⟩, hIC, hID, hCD⟩
  have hCfp : s.heap.objs.size + 1 ∉ fp := fun hm => by
    have : @LT.lt Nat _ (s.heap.objs.size + 1) s.heap.objs.size := O.low _ hm
    omega
  have hDfp : s.heap.objs.size ∉ fp := fun hm => Nat.lt_irrefl _ (O.low _ hm)
  have st₁ : St 0 h₁ := O.walk.frame _ _ _ O.st fun b _ o e => old b o e
  have N₁ : News h₀ L h₁ ((s.heap.objs.size, lst []) :: news) := fun p hp => by
    rcases List.mem_cons.mp hp with rfl | hp
    · exact ⟨hD1, neL _ (Nat.le_refl _), none₀ _ (Nat.le_refl _)⟩
    · exact ⟨old _ _ (O.nws _ (.tail _ hp)).1, (O.nws _ (.tail _ hp)).2⟩
  have F₁ : Fr h₀ L h₁ m := O.fr.keeps old
  have hCL := neL _ (Nat.le_succ s.heap.objs.size)
  have hC0 := none₀ _ (Nat.le_succ s.heap.objs.size)
  have hDL := neL _ (Nat.le_refl s.heap.objs.size)
  have hD0 := none₀ _ (Nat.le_refl s.heap.objs.size)
  have loop : ∀ tk, codeAny (model prog w) A (.compLoop (.ListComp elt [⟨.Name x px, iter, ifs, 0⟩] scope pos) 0 (.ref I) (.ref s.heap.objs.size) (compEnvC scope cl (s.heap.objs.size + 1) env))
      (RR (.ref s.heap.objs.size) (s.heap.objs.size + 1)) { s with heap := h₁, toks := tk } := fun tk₀ => by
    generalize s.heap.objs.size = D at *
    refine codeAny_compLoop_tests (CompI h₀ L m s I n St J D) ?_ (n + 1)
      ⟨h₁, tk₀, s.drawn, 0, [], _, news, rfl, Nat.zero_le _, rfl, st₁, F₁, hns, N₁, ap0, O.zero⟩
    rintro k s' ⟨h, tk, dr, i, ys, m', nw, rfl, hi, rfl, hst, F, hn, N, ap, hJ⟩
    have N0 : News h₀ L h nw := fun p hp => N p (.tail _ hp)
    by_cases hlt : i < n
    · refine O.walk.item i _ _ _ hlt hst fun v h₂ tk₂ hP hst₂ hk₂ => ?_
      have F₂ := fr_but1 F hk₂ hIL.1 hIL.2
      refine wpAny_assign_Name (wpAny_storeName_local (lookup_relabel_local hx) (hn.at' fun o e => hk₂ _ o (by simpa using Ne.symm ap.ic) e) (fun h₃ hn₃ hs₃ => ?_) (by simp [compEnvC, relabel, hkind]))
      replace hs₃ : Heap.SameBut (D + 1) h₂ h₃ := hs₃
      have hst₃ : St (i + 1) h₃ := O.walk.frame _ _ _ hst₂ fun b hb o e => hs₃.extBut b o (fun q => hCfp (q ▸ hb)) e
      obtain ⟨oI, heI⟩ := O.live _ _ hst₃
      obtain ⟨oC, heC, hoC⟩ := LCg.ns_obj hn₃
      have F₃ : Fr h₀ L h₃ m := F₂.change hs₃ hCL hC0
      have up₃ : ∀ b o, b ≠ I → b ≠ D + 1 → h.get? b = some o → h₃.get? b = some o := fun b o h1 h2 e => hs₃.extBut b o h2 (hk₂ b o (by simpa using h1) e)
      have N₃ : News h₀ L h₃ ((I, oI) :: (D + 1, oC) :: (D, lst ys) :: nw) := fun p hp => by
        rcases List.mem_cons.mp hp with rfl | hp
        · exact ⟨heI, hIL⟩
        · rcases List.mem_cons.mp hp with rfl | hp
          · exact ⟨heC, hCL, hC0⟩
          · refine ⟨up₃ _ _ ?_ ?_ (N p hp).1, (N p hp).2⟩
            · rcases List.mem_cons.mp hp with rfl | hp
              · exact Ne.symm ap.id
              · exact (ap.off p hp).1
            · rcases List.mem_cons.mp hp with rfl | hp
              · exact Ne.symm ap.cd
              · exact (ap.off p hp).2.1
      have ends : ∀ {zs : List Value} {s₄ : Shared}, zs.length ≤ i + 1 → EltEnd h₀ L m s I oI (D + 1) oC D ys (J (i + 1) zs) s₄ → ∃ h₄ tk₄ dr₄ nw₄, s₄ = { s with heap := h₄, toks := tk₄, drawn := dr₄ } ∧ St (i + 1) h₄ ∧ Fr h₀ L h₄ m ∧ h₄.Ns (D + 1) (fun y => if y = x then some v else m' y) ∧ News h₀ L h₄ ((D, lst ys) :: nw₄) ∧ CApart I (D + 1) D nw₄ ∧ J (i + 1) zs nw₄ := by
        rintro zs s₄ hz ⟨h₄, tk₄, dr₄, nw₄, rfl, F₄, N₄, ap₄, J₄⟩
        refine ⟨h₄, tk₄, dr₄, nw₄, rfl, ?_, F₄, hoC.ns (N₄ _ (.tail _ (.head _))).1, fun p hp => N₄ p (.tail _ (.tail _ hp)), ap₄, J₄⟩
        refine O.walk.frame _ _ _ hst₃ fun b hb o e => ?_
        rcases O.stands b hb with rfl | ⟨o₁, ho₁⟩
        · rw [heI] at e; cases e; exact (N₄ _ (.head _)).1
        · have e1 : h₃.get? b = some o₁ := (O.kept _ _ _ hJ _ ho₁).elim (fun hm => (N₃ _ (.tail _ (.tail _ (.tail _ hm)))).1) fun e => F₃.keep _ _ e
          rw [e1] at e; cases e
          exact (O.kept _ _ _ J₄ _ ho₁).elim (fun hm => (N₄ _ (.tail _ (.tail _ (.tail _ hm)))).1) fun e => F₄.keep _ _ e
      refine wpAny_mono (O.step i v oI (D + 1) oC D ys nw _ h₃ _ _ _ hlt hP hJ hoC (by simp) F₃ N₃ ap) (fun ok s₃ h₃' => ?_) fun _ _ e => e
      cases ok with
      | false =>
        rw [if_neg Bool.false_ne_true] at h₃' ⊢
        obtain ⟨h₄, tk₄, dr₄, nw₄, rfl, a1, a2, a3, a4, a5, a6⟩ := ends (by have := O.len _ _ _ hJ; omega) h₃'
        exact ⟨n + 1 - (i + 1), by omega, h₄, tk₄, dr₄, i + 1, ys, _, nw₄, rfl, hlt, rfl, a1, a2, a3, a4, a5, a6⟩
      | true =>
        rw [if_pos rfl] at h₃' ⊢
        refine wpAny_mono h₃' (fun y s₄ h₄' => ?_) fun _ _ e => e
        obtain ⟨h₄, tk₄, dr₄, nw₄, rfl, a1, a2, a3, a4, a5, a6⟩ := ends (by rw [List.length_append]; have := O.len _ _ _ hJ; simp; omega) h₄'
        refine append_at (hsz := by show ys.toArray.size ≤ sizeLine; rw [List.size_toArray]; exact Nat.le_trans (O.len _ _ _ hJ) (Nat.le_trans hi O.small)) (a4 _ (.head _)).1 fun h₅ hs₅ hD₅ => ?_
        refine ⟨n + 1 - (i + 1), by omega, h₅, tk₄, dr₄, i + 1, ys ++ [y], _, nw₄, rfl, hlt, rfl, O.walk.frame _ _ _ a1 fun b hb o e => hs₅.extBut b o (fun q => hDfp (q ▸ hb)) e, a2.change hs₅ hDL hD0, a3.sameBut hs₅ ap.cd, fun p hp => ?_, a5, a6⟩
        rcases List.mem_cons.mp hp with rfl | hp
        · exact ⟨hD₅.trans (congrArg some (LCg.lst_snoc ys y)), hDL, hD0⟩
        · exact ⟨hs₅.extBut _ _ (a5.off p hp).2.2 (a4 _ (.tail _ hp)).1, (a4 _ (.tail _ hp)).2⟩
    · obtain rfl : i = n := by omega
      refine O.walk.done _ _ _ hst fun h₂ tk₂ hk₂ => ?_
      refine hRR D (D + 1) h₂ tk₂ dr m' ys nw hJ (fr_but1 F hk₂ hIL.1 hIL.2) (fun p hp => ⟨hk₂ _ _ ?_ (N p hp).1, (N p hp).2⟩) (fun p hp => ⟨(ap.off p hp).2.2, (ap.off p hp).2.1⟩) (hn.at' fun o e => hk₂ _ o (by simpa using Ne.symm ap.ic) e) hCL hC0 ap.cd
      rcases List.mem_cons.mp hp with rfl | hp
      · simpa using Ne.symm ap.id
      · simpa using (ap.off p hp).1
  exact codeAny_compStart_list (loop _) (O.walk.self 0 _ _ _ st₁ (loop _))

theorem compEval {elt iter : Expr} {ifs : List Expr} {x : Str} {px : Pos} {scope : Scope} {cl : List (Str × Addr)} {pos : Pos} {Q : Value → Shared → Prop} (_F₀ : Fr h₀ L s.heap m)
    (hclos : closureFor scope env = pure cl) (hcell : ∀ y ∈ scope.names, y.2 ≠ .cell) (hkind : scope.kind = .function)
    (hnames : ∀ y ∈ scope.names, y.2 = .local → scope.names.lookup y.1 = some .local) (hx : scope.names.lookup x = some .local)
    (h : wpAny (model prog w) A (eval iter env) (fun xv s₁ => wpAny (model prog w) A (pyIter xv) (fun it s₂ => ∃ I fp n P St fpo o₀ news J, it = .ref I ∧ CompOK prog w A h₀ L m env elt ifs x scope cl s₂ I fp n P St fpo o₀ news J ∧
      ∀ D h tk dr ys nw, J n ys nw → Fr h₀ L h m → News h₀ L h ((D, lst ys) :: nw) → (∀ p ∈ nw, p.1 ≠ D) → Q (.ref D) { s₂ with heap := h, toks := tk, drawn := dr }) E s₁) E s)
    (hs : ∀ x, foldedSetIterable iter env x = pure x := by intro _; rfl) :
    wpAny (model prog w) A (eval (.ListComp elt [⟨.Name x px, iter, ifs, 0⟩] scope pos) env) Q E s := by
  rw [eval_ListComp]
  refine wpAny_comprehension_free (use := none) rfl hs hclos hkind hnames (wpAny_mono h (fun xv s₁ h₁ => wpAny_mono h₁ (fun it s₂ h₂ => ?_) fun _ _ e => e) fun _ _ e => e)
  obtain ⟨I, fp, n, P, St, fpo, o₀, news, J, rfl, O, hQ⟩ := h₂
  refine compBlock O hcell hkind hx fun D C h tk dr m' ys nw hJ F N hD hn hCL hC0 hCD => ?_
  refine ⟨m', hn, fun h'' hs'' => hQ D h'' tk dr ys nw hJ (F.change hs'' hCL hC0) (fun p hp => ⟨hs''.extBut _ _ ?_ (N p hp).1, (N p hp).2⟩) fun p hp => (hD p hp).1⟩
  rcases List.mem_cons.mp hp with rfl | hp
  · exact Ne.symm hCD
  · exact (hD p hp).2
noncomputable def PutEnd (h₀ : Heap) (L C : Addr) (oC : Obj) (Q : Flow → Shared → Prop) (s' : Shared) : Prop :=
  ∃ m₂ nw₂, Fr h₀ L s'.heap m₂ ∧ News h₀ L s'.heap ((C, oC) :: nw₂) ∧ (∀ p ∈ nw₂, p.1 ≠ C) ∧ ∀ h'', Fr h₀ L h'' m₂ → News h₀ L h'' nw₂ → Q .next { s' with heap := h'' }
theorem compAssign {elt iter : Expr} {ifs : List Expr} {x y : Str} {px py : Pos} {scope : Scope} {cl : List (Str × Addr)} {pos spos : Pos} {Q : Flow → Shared → Prop} (_F₀ : Fr h₀ L s.heap m)
    (hsw : swapsWith (.ListComp elt [⟨.Name x px, iter, ifs, 0⟩] scope pos) (some (.Name y py)) spos.line env = pure true)
    (hclos : closureFor scope env = pure cl) (hcell : ∀ y ∈ scope.names, y.2 ≠ .cell) (hkind : scope.kind = .function)
    (hnames : ∀ y ∈ scope.names, y.2 = .local → scope.names.lookup y.1 = some .local) (hx : scope.names.lookup x = some .local)
    (h : wpAny (model prog w) A (eval iter env) (fun xv s₁ => wpAny (model prog w) A (pyIter xv) (fun it s₂ => ∃ I fp n P St fpo o₀ news J, it = .ref I ∧ CompOK prog w A h₀ L m env elt ifs x scope cl s₂ I fp n P St fpo o₀ news J ∧
      ∀ D C oC h tk dr m' ys nw, J n ys nw → Fr h₀ L h m → News h₀ L h ((C, oC) :: (D, lst ys) :: nw) → (∀ p ∈ nw, p.1 ≠ D ∧ p.1 ≠ C) → NsObj oC m' → @Ne Nat C D →
        wpAny (model prog w) A (assign (.Name y py) env (.ref D)) (fun _ s' => PutEnd h₀ L C oC Q s') E { s₂ with heap := h, toks := tk, drawn := dr }) E s₁) E s)
    (hs : ∀ x, foldedSetIterable iter env x = pure x := by intro _; rfl) :
    wpAny (model prog w) A (exec (.Assign [.Name y py] (.ListComp elt [⟨.Name x px, iter, ifs, 0⟩] scope pos) spos) env) Q E s := by
  rw [exec_Assign_Name_used _ _ _ _ hsw]
  refine wpAny_bind (wpAny_standAt (wpAny_bind ?_))
  show wpAny _ A (do let _ ← comprehension (.ListComp elt [⟨.Name x px, iter, ifs, 0⟩] scope pos) scope env _ (newList []) false (eval iter env) (some (assign (.Name y py) env))) _ _ s
  refine wpAny_bind (wpAny_mono (wpAny_comprehension_free (use := some (assign (.Name y py) env)) (Q := fun _ s' => Q .next s') rfl hs hclos hkind hnames
    (wpAny_mono h (fun xv s₁ h₁ => wpAny_mono h₁ (fun it s₂ h₂ => ?_) fun _ _ e => e) fun _ _ e => e)) (fun _ s' hq => wpAny_pure (wpAny_pure hq)) fun _ _ e => e)
  obtain ⟨I, fp, n, P, St, fpo, o₀, news, J, rfl, O, hQ⟩ := h₂
  refine compBlock O hcell hkind hx fun D C h tk dr m' ys nw hJ F N hD hn hCL hC0 hCD => ?_
  obtain ⟨oC, heC, hoC⟩ := LCg.ns_obj hn
  show wpAny _ A (assign (.Name y py) env (.ref D)) _ _ _
  refine wpAny_mono (hQ D C oC h tk dr m' ys nw hJ F (fun p hp => ?_) hD hoC hCD) (fun _ s' hp => ?_) fun _ _ e => e
  · rcases List.mem_cons.mp hp with rfl | hp
    · exact ⟨heC, hCL, hC0⟩
    · exact N p hp
  · obtain ⟨m₂, nw₂, F₂, N₂, hap, hq⟩ := hp
    exact ⟨m', hoC.ns (N₂ _ (.head _)).1, fun h'' hs'' => hq h'' (F₂.change hs'' hCL hC0) fun p hp => ⟨hs''.extBut _ _ (hap p hp) (N₂ p (.tail _ hp)).1, (N₂ p (.tail _ hp)).2⟩⟩
/-- the obligations over a list -/
theorem CompOK.list {elt : Expr} {ifs : List Expr} {x : Str} {scope : Scope} {cl : List (Str × Addr)} {I l : Addr} {vs : List Value} {ol : Obj} {news : List (Addr × Obj)} {J : Nat → List Value → List (Addr × Obj) → Prop}
    (hh : A.handled = none) (hlI : l ≠ I) (hol : ol.cls = .type "list" ∧ ∃ n, ol.data = .seq vs.toArray n) (small : vs.length ≤ sizeLine)
    (kept : ∀ i ys nw, J i ys nw → (l, ol) ∈ nw ∨ h₀.get? l = some ol) (fr : Fr h₀ L s.heap m) (nws : News h₀ L s.heap ((I, { cls := .type "list_iterator", data := .fields #[.ref l, .int 0 0] }) :: news)) (off : ∀ p ∈ news, p.1 ≠ I)
    (zero : J 0 [] news) (len : ∀ i ys nw, J i ys nw → ys.length ≤ i)
    (step : ∀ i v oI C oC D ys nw m₂ h tk dr (E' : Value → Shared → Prop), i < vs.length → vs[i]? = some v → J i ys nw → NsObj oC m₂ → m₂ x = some v → Fr h₀ L h m → News h₀ L h ((I, oI) :: (C, oC) :: (D, lst ys) :: nw) → CApart I C D nw →
      wpAny (model prog w) A (forIn ifs true fun c r => if r = true then do let ok ← isTrue c (compEnvC scope cl C env) (eval c (compEnvC scope cl C env)); pure (ForInStep.yield ok) else pure (ForInStep.yield r)) (fun ok s₃ =>
        if ok = true then wpAny (model prog w) A (eval elt (compEnvC scope cl C env)) (fun y s₄ => EltEnd h₀ L m s I oI C oC D ys (J (i + 1) (ys ++ [y])) s₄) E' s₃
        else EltEnd h₀ L m s I oI C oC D ys (J (i + 1) ys) s₃) E' { s with heap := h, toks := tk, drawn := dr }) :
    CompOK prog w A h₀ L m env elt ifs x scope cl s I [I, l] vs.length (fun i v => vs[i]? = some v) (fun i h => h.IsListIter I l i ∧ h.IsList l vs.toArray) [(l, ol)] { cls := .type "list_iterator", data := .fields #[.ref l, .int 0 0] } news J := by
  have hl : s.heap.get? l = some ol := (kept 0 [] news zero).elim (fun hm => (nws _ (.tail _ hm)).1) fun e => fr.keep _ _ e
  have WK := Walks.list (prog := prog) (w := w) hh I l hlI vs.toArray
  simp only [List.size_toArray, List.getElem?_toArray] at WK
  refine ⟨WK, small, fun i h x => let ⟨o, e, _⟩ := x.1; ⟨o, e⟩, fun b hb => ?_, fun i ys nw hj p hp => ?_, fr, nws, off, ⟨⟨_, (nws _ (.head _)).1, rfl, rfl⟩, ⟨ol, hl, hol⟩⟩, fun b hb => ?_, zero, len, step⟩
  · rcases List.mem_cons.mp hb with rfl | hb
    · exact .inl rfl
    · rw [List.mem_singleton.mp hb]; exact .inr ⟨_, .head _⟩
  · rw [List.mem_singleton.mp hp]; exact kept i ys nw hj
  · rcases List.mem_cons.mp hb with rfl | hb
    · exact Heap.lt_size (nws _ (.head _)).1
    · rw [List.mem_singleton.mp hb]; exact Heap.lt_size hl
theorem CompOK.range {elt : Expr} {ifs : List Expr} {x : Str} {scope : Scope} {cl : List (Str × Addr)} {I : Addr} {a : Int} {n : Nat} {k : Int} {news : List (Addr × Obj)} {J : Nat → List Value → List (Addr × Obj) → Prop}
    (hh : A.handled = none) (hkn : k = (n : Int)) (small : n ≤ sizeLine) (fr : Fr h₀ L s.heap m) (nws : News h₀ L s.heap ((I, { cls := .type "range_iterator", data := .fields #[rawInt a, rawInt k, rawInt 1] }) :: news)) (off : ∀ p ∈ news, p.1 ≠ I)
    (zero : J 0 [] news) (len : ∀ i ys nw, J i ys nw → ys.length ≤ i)
    (step : ∀ i t oI C oC D ys nw m₂ h tk dr (E' : Value → Shared → Prop), i < n → J i ys nw → NsObj oC m₂ → m₂ x = some (.int (a + (i : Nat)) t) → Fr h₀ L h m → News h₀ L h ((I, oI) :: (C, oC) :: (D, lst ys) :: nw) → CApart I C D nw →
      wpAny (model prog w) A (forIn ifs true fun c r => if r = true then do let ok ← isTrue c (compEnvC scope cl C env) (eval c (compEnvC scope cl C env)); pure (ForInStep.yield ok) else pure (ForInStep.yield r)) (fun ok s₃ =>
        if ok = true then wpAny (model prog w) A (eval elt (compEnvC scope cl C env)) (fun y s₄ => EltEnd h₀ L m s I oI C oC D ys (J (i + 1) (ys ++ [y])) s₄) E' s₃
        else EltEnd h₀ L m s I oI C oC D ys (J (i + 1) ys) s₃) E' { s with heap := h, toks := tk, drawn := dr }) :
    CompOK prog w A h₀ L m env elt ifs x scope cl s I [I] n (fun i v => ∃ t, v = .int (a + (i : Int)) t) (fun i h => IsRangeIter h I (a + (i : Nat) * 1) ((n : Int) - (i : Nat)) 1) [] { cls := .type "range_iterator", data := .fields #[rawInt a, rawInt k, rawInt 1] } news J := by
  subst hkn
  refine ⟨LCg.range_walks hh a n, small, fun i h x => ⟨_, x⟩, fun b hb => .inl (List.mem_singleton.mp hb), fun i ys nw hj p hp => (nomatch hp), fr, nws, off, ?_, fun b hb => ?_, zero, len, ?_⟩
  · simpa using (nws _ (.head _)).1
  · rw [List.mem_singleton.mp hb]; exact Heap.lt_size (nws _ (.head _)).1
  · rintro i v oI C oC D ys nw m₂ h tk dr E' hi ⟨t, rfl⟩ hJ hoC hm
    exact step i t oI C oC D ys nw m₂ h tk dr E' hi hJ hoC hm
end
end Mine
end
section -- Loop
open PySem PySem.Spec PySem.Calls PySem.W PyProof.Rows
namespace Mine
section
variable {prog : Program} {w : World} {A : Around} {E : Value → Shared → Prop} {s : Shared} {h₀ : Heap} {L : Addr} {m : Str → Option Value} {news : List (Addr × Obj)} {env : Env}

theorem fr_but {h h' : Heap} {I : Addr} (F : Fr h₀ L h m) (e : ∀ b o, b ∉ [I] → h.get? b = some o → h'.get? b = some o) (h1 : I ≠ L) (h2 : h₀.get? I = none) : Fr h₀ L h' m :=
  ExtB.fr (S := [I]) (fun b o hb hn => e b o hn hb) F fun b hb => by
    rw [List.mem_singleton.mp hb]; exact ⟨h2, h1⟩
theorem news_but {h h' : Heap} {I : Addr} (N : News h₀ L h news) (e : ∀ b o, b ∉ [I] → h.get? b = some o → h'.get? b = some o) (hI : ∀ p ∈ news, p.1 ≠ I) : News h₀ L h' news :=
  ExtB.news (S := [I]) (fun b o hb hn => e b o hn hb) N fun p hp hm => hI p hp (List.mem_singleton.mp hm)

noncomputable def TurnQ (h₀ : Heap) (L I : Addr) (o : Obj) (J : (Str → Option Value) → List (Addr × Obj) → Prop) (s : Shared) (R : Result → Shared → Prop) (f : Flow) (s₃ : Shared) : Prop := match f with
  | .brk => R (.ok .next) s₃
  | .ret v => R (.ok (.ret v)) s₃
  | _ => ∃ h' tk' m₂ news₂, s₃ = { s with heap := h', toks := tk' } ∧ Fr h₀ L h' m₂ ∧ News h₀ L h' ((I, o) :: news₂) ∧ (∀ p ∈ news₂, p.1 ≠ I) ∧ J m₂ news₂
theorem TurnQ.intro {I : Addr} {o : Obj} {J : (Str → Option Value) → List (Addr × Obj) → Prop} {R : Result → Shared → Prop} {h' : Heap} {tk' : Nat} {m₂ : Str → Option Value} {news₂ : List (Addr × Obj)}
    (F : Fr h₀ L h' m₂) (N : News h₀ L h' ((I, o) :: news₂)) (hI : ∀ p ∈ news₂, p.1 ≠ I) (hJ : J m₂ news₂) : TurnQ h₀ L I o J s R .next { s with heap := h', toks := tk' } := ⟨h', tk', m₂, news₂, rfl, F, N, hI, hJ⟩

theorem forW {I : Addr} {fp : List Addr} {n : Nat} {P : Nat → Value → Prop} {St : Nat → Heap → Prop} {target : Expr} {body : List Stmt} {R : Result → Shared → Prop} (W : Walks prog w A I fp [I] n P St)
    (hlive : ∀ i h, St i h → ∃ o, h.get? I = some o) (fpo : List (Addr × Obj)) (hfp : ∀ b ∈ fp, b = I ∨ ∃ o, (b, o) ∈ fpo) (J : Nat → (Str → Option Value) → List (Addr × Obj) → Prop)
    (hk : ∀ i m₁ news₁, J i m₁ news₁ → ∀ p ∈ fpo, p ∈ news₁ ∨ h₀.get? p.1 = some p.2) {o₀ : Obj} (hst : St 0 s.heap) (F : Fr h₀ L s.heap m) (N : News h₀ L s.heap ((I, o₀) :: news)) (hI : ∀ p ∈ news, p.1 ≠ I) (h0 : J 0 m news)
    (step : ∀ i v m₁ news₁ h tk o, i < n → P i v → J i m₁ news₁ → (∀ p ∈ news₁, p.1 ≠ I) → Fr h₀ L h m₁ → News h₀ L h ((I, o) :: news₁) →
      wpAny (model prog w) A (assign target env v) (fun _ s₂ => wpAny (model prog w) A (execs body env) (TurnQ h₀ L I o (J (i + 1)) s R) (notedBy (model prog w) A env fun e s' => R (.error e) s') s₂) (notedBy (model prog w) A env fun e s' => R (.error e) s') { s with heap := h, toks := tk })
    (done : ∀ m₁ news₁ h tk, J n m₁ news₁ → Fr h₀ L h m₁ → News h₀ L h news₁ → R (.ok .next) { s with heap := h, toks := tk })
    (ht : ∀ v, letOwnedTupleGo target (.ref I) v = pure () := by intro _; rfl) : codeAny (model prog w) A (.forLoop target (.ref I) body [] env) R s := by
  have hIL := (N (I, o₀) (.head _)).2
  refine codeAny_forLoop (fun k s' => ∃ h tk m₁ news₁ o i, s' = { s with heap := h, toks := tk } ∧ i ≤ n ∧ k = n - i ∧ St i h ∧ Fr h₀ L h m₁ ∧ News h₀ L h ((I, o) :: news₁) ∧ (∀ p ∈ news₁, p.1 ≠ I) ∧ J i m₁ news₁) ?_ n
    ⟨s.heap, s.toks, m, news, o₀, 0, rfl, Nat.zero_le _, rfl, hst, F, N, hI, h0⟩ ht
  rintro k s' ⟨h, tk, m₁, news₁, o, i, rfl, hi, rfl, hS, F₁, N₁, hI₁, hJ⟩
  have Nn : News h₀ L h news₁ := fun p hp => N₁ p (.tail _ hp)
  by_cases hlt : i < n
  · refine W.item i _ _ _ hlt hS fun v h' tk' hP hS' he => ?_
    obtain ⟨o', ho'⟩ := hlive _ _ hS'
    have F' := fr_but F₁ he hIL.1 hIL.2
    have N' : News h₀ L h' ((I, o') :: news₁) := fun p hp => by
      rcases List.mem_cons.mp hp with rfl | hp
      · exact ⟨ho', hIL⟩
      · exact news_but Nn he hI₁ p hp
    refine wpAny_mono (step i v m₁ news₁ h' tk' o' hlt hP hJ hI₁ F' N') (fun _ s₂ hb => wpAny_mono hb (fun f s₃ hf => ?_) fun _ _ e => e) fun _ _ e => e
    have fin : (∃ h' tk' m₂ news₂, s₃ = { s with heap := h', toks := tk' } ∧ Fr h₀ L h' m₂ ∧ News h₀ L h' ((I, o') :: news₂) ∧ (∀ p ∈ news₂, p.1 ≠ I) ∧ J (i + 1) m₂ news₂) → ∃ k, k < n - i ∧
        ∃ h tk m₁ news₁ o j, s₃ = { s with heap := h, toks := tk } ∧ j ≤ n ∧ k = n - j ∧ St j h ∧ Fr h₀ L h m₁ ∧ News h₀ L h ((I, o) :: news₁) ∧ (∀ p ∈ news₁, p.1 ≠ I) ∧ J j m₁ news₁ := by
      rintro ⟨h₃, tk₃, m₂, news₂, rfl, F₃, N₃, hI₃, hJ₃⟩
      refine ⟨n - (i + 1), by omega, h₃, tk₃, m₂, news₂, o', i + 1, rfl, hlt, rfl, ?_, F₃, N₃, hI₃, hJ₃⟩
      refine W.frame _ _ _ hS' fun b hb ob hob => ?_
      rcases hfp b hb with rfl | ⟨o₁, ho₁⟩
      · rw [ho'] at hob; cases hob; exact (N₃ _ (.head _)).1
      · have e1 : h'.get? b = some o₁ := (hk _ _ _ hJ _ ho₁).elim (fun hm => (N' _ (.tail _ hm)).1) fun e => F'.keep _ _ e
        rw [e1] at hob; cases hob
        exact (hk _ _ _ hJ₃ _ ho₁).elim (fun hm => (N₃ _ (.tail _ hm)).1) fun e => F₃.keep _ _ e
    cases f with
    | next => exact fin hf
    | cont => exact fin hf
    | brk => exact hf
    | ret v => exact hf
  · obtain rfl : i = n := by omega
    refine W.done _ _ _ hS fun h' tk' he => ?_
    exact wpAny_execs_nil (done m₁ news₁ h' tk' hJ (fr_but F₁ he hIL.1 hIL.2) (news_but Nn he hI₁))

theorem news_push1 {h : Heap} {o : Obj} (F : Fr h₀ L h m) (N : News h₀ L h news) (hf : o.isFreed = false := by rfl) : Fr h₀ L (h.push o) m ∧ News h₀ L (h.push o) ((h.objs.size, o) :: news) ∧ AllLt h.objs.size news :=
  ⟨F.push o, N.push F o hf, allLt_of fun p hp => Heap.lt_size (N p hp).1⟩

theorem pyIter_listN {l : Addr} {items : Array Value} {Q : Value → Shared → Prop} (F : Fr h₀ L s.heap m) (N : News h₀ L s.heap news) (hl : s.heap.IsList l items)
    (h : ∀ I h', Fr h₀ L h' m → News h₀ L h' ((I, { cls := .type "list_iterator", data := .fields #[.ref l, .int 0 0] }) :: news) → AllLt I news → Q (.ref I) { s with heap := h' }) : wpAny (model prog w) A (pyIter (.ref l)) Q E s := by
  obtain ⟨a, b, c⟩ := news_push1 (o := { cls := .type "list_iterator", data := .fields #[.ref l, .int 0 0] }) F N
  exact wpAny_pyIter_list hl (h _ _ a b c)
theorem pyIter_rangeN {r : Addr} {a b c : Int} {t u v : Tok} {Q : Value → Shared → Prop} (F : Fr h₀ L s.heap m) (N : News h₀ L s.heap news) (hr : IsRange s.heap r a b c t u v) (hs : Builtin.Range.small a b c = true)
    (h : ∀ I h', Fr h₀ L h' m → News h₀ L h' ((I, { cls := .type "range_iterator", data := .fields #[rawInt a, rawInt (Builtin.Range.rangeSize a b c), rawInt c] }) :: news) → AllLt I news → Q (.ref I) { s with heap := h' }) : wpAny (model prog w) A (pyIter (.ref r)) Q E s := by
  obtain ⟨x, y, z⟩ := news_push1 (o := { cls := .type "range_iterator", data := .fields #[rawInt a, rawInt (Builtin.Range.rangeSize a b c), rawInt c] }) F N
  exact wpAny_pyIter_range hr hs (h _ _ x y z)
/-- a for over the reversed list -/
theorem forRev {I l : Addr} {vs : List Value} {k : Nat} {target : Expr} {body : List Stmt} {R : Result → Shared → Prop} (hh : A.handled = none) (hlI : l ≠ I) (J : Nat → (Str → Option Value) → List (Addr × Obj) → Prop)
    (hk : ∀ i m₁ news₁, J i m₁ news₁ → (l, W.listOf vs.toArray k) ∈ news₁) (F : Fr h₀ L s.heap m) (N : News h₀ L s.heap ((I, revObj l ((vs.length : Int) - 1)) :: news)) (hI : ∀ p ∈ news, p.1 ≠ I) (h0 : J 0 m news)
    (step : ∀ i v m₁ news₁ h tk o, i < vs.length → vs[vs.length - 1 - i]? = some v → J i m₁ news₁ → (∀ p ∈ news₁, p.1 ≠ I) → Fr h₀ L h m₁ → News h₀ L h ((I, o) :: news₁) →
      wpAny (model prog w) A (assign target env v) (fun _ s₂ => wpAny (model prog w) A (execs body env) (TurnQ h₀ L I o (J (i + 1)) s R) (notedBy (model prog w) A env fun e s' => R (.error e) s') s₂) (notedBy (model prog w) A env fun e s' => R (.error e) s') { s with heap := h, toks := tk })
    (done : ∀ m₁ news₁ h tk, J vs.length m₁ news₁ → Fr h₀ L h m₁ → News h₀ L h news₁ → R (.ok .next) { s with heap := h, toks := tk })
    (ht : ∀ v, letOwnedTupleGo target (.ref I) v = pure () := by intro _; rfl) : codeAny (model prog w) A (.forLoop target (.ref I) body [] env) R s := by
  have WK := Walks.listRev (prog := prog) (w := w) hh I l hlI vs.toArray
  simp only [List.size_toArray] at WK
  refine forW WK (fun i h x => let ⟨o, e, _⟩ := x.2.1; ⟨o, e⟩) [(l, W.listOf vs.toArray k)] (fun b hb => ?_) J (fun i m₁ n₁ hj p hp => .inl (by rw [List.mem_singleton.mp hp]; exact hk i m₁ n₁ hj)) ?_ F N hI h0 (fun i v m₁ n₁ h tk o hi hP => step i v m₁ n₁ h tk o hi (by simpa using hP)) done ht
  · rcases List.mem_cons.mp hb with rfl | hb
    · exact .inl rfl
    · rw [List.mem_singleton.mp hb]; exact .inr ⟨_, List.mem_singleton.mpr rfl⟩
  · refine ⟨Nat.zero_le _, ⟨_, (N _ (.head _)).1, rfl, ?_⟩, ?_⟩
    · show Data.fields _ = _
      congr 3; simp [rawInt]
    · exact PySem.IsL.isList (n := k) (N _ (.tail _ (hk 0 m news h0))).1
noncomputable def WhileQ (n : Nat) (I : Nat → Shared → Prop) (R : Result → Shared → Prop) (f : Flow) (s₃ : Shared) : Prop := match f with
  | .brk => R (.ok .next) s₃
  | .ret v => R (.ok (.ret v)) s₃
  | _ => ∃ m, m < n ∧ I m s₃
theorem whileI {test : Expr} {body orelse : List Stmt} {R : Result → Shared → Prop} (I : Nat → Shared → Prop)
    (turn : ∀ n s, I n s → wpAny (model prog w) A (isTrue test env (eval test env)) (fun b s₂ =>
        if b then wpAny (model prog w) A (execs body env) (WhileQ n I R) (notedBy (model prog w) A env fun e s' => R (.error e) s') s₂
        else wpAny (model prog w) A (execs orelse env) (fun f s₃ => R (.ok f) s₃) (notedBy (model prog w) A env fun e s' => R (.error e) s') s₂) (notedBy (model prog w) A env fun e s' => R (.error e) s') s)
    (n : Nat) (h : I n s) : codeAny (model prog w) A (.whileLoop test body orelse env) R s := by
  refine codeAny_whileLoop I (fun n s hI => wpAny_mono (turn n s hI) (fun b s₂ hb => ?_) fun _ _ e => e) n h
  cases b with
  | false => exact hb
  | true => exact wpAny_mono hb (fun f s₃ hf => by cases f <;> exact hf) fun _ _ e => e
/-- a for over a range by ones -/
theorem forRange {I : Addr} {a : Int} {n : Nat} {k : Int} {target : Expr} {body : List Stmt} {R : Result → Shared → Prop} (hh : A.handled = none) (hkn : k = (n : Int)) (J : Nat → (Str → Option Value) → List (Addr × Obj) → Prop)
    (F : Fr h₀ L s.heap m) (N : News h₀ L s.heap ((I, { cls := .type "range_iterator", data := .fields #[rawInt a, rawInt k, rawInt 1] }) :: news)) (hI : ∀ p ∈ news, p.1 ≠ I) (h0 : J 0 m news)
    (step : ∀ i t m₁ news₁ h tk o, i < n → J i m₁ news₁ → (∀ p ∈ news₁, p.1 ≠ I) → Fr h₀ L h m₁ → News h₀ L h ((I, o) :: news₁) →
      wpAny (model prog w) A (assign target env (.int (a + (i : Nat)) t)) (fun _ s₂ => wpAny (model prog w) A (execs body env) (TurnQ h₀ L I o (J (i + 1)) s R) (notedBy (model prog w) A env fun e s' => R (.error e) s') s₂) (notedBy (model prog w) A env fun e s' => R (.error e) s') { s with heap := h, toks := tk })
    (done : ∀ m₁ news₁ h tk, J n m₁ news₁ → Fr h₀ L h m₁ → News h₀ L h news₁ → R (.ok .next) { s with heap := h, toks := tk })
    (ht : ∀ v, letOwnedTupleGo target (.ref I) v = pure () := by intro _; rfl) : codeAny (model prog w) A (.forLoop target (.ref I) body [] env) R s := by
  have WK := Walks.range (prog := prog) (w := w) hh I a 1 n
  subst hkn
  refine forW WK (fun i h x => ?_) [] (fun b hb => .inl (by simpa using hb)) J (fun i m₁ n₁ hj p hp => nomatch hp) ?_ F N hI h0 (fun i v m₁ n₁ h tk o hi hP => ?_) done ht
  · exact ⟨_, x⟩
  · simpa using (N _ (.head _)).1
  · obtain ⟨t, rfl⟩ := hP
    have := step i t m₁ n₁ h tk o hi
    simpa using this
end
end Mine
end
section -- Loop2
open PySem PySem.Spec PySem.Calls PySem.W PyProof.Rows
namespace Mine
/-- the world is the same, the generators stay bare -/
noncomputable def Same (s s' : Shared) : Prop := s'.os = s.os ∧ (AllBare s.gens → AllBare s'.gens)
theorem Same.refl {s : Shared} : Same s s := ⟨rfl, fun h => h⟩
theorem Same.trans {s s' s'' : Shared} (x : Same s s') (y : Same s' s'') : Same s s'' := ⟨y.1.trans x.1, fun h => y.2 (x.2 h)⟩
section
variable {prog : Program} {w : World} {A : Around} {E : Value → Shared → Prop} {s : Shared} {h₀ : Heap} {L : Addr} {m : Str → Option Value} {news : List (Addr × Obj)} {env : Env}
noncomputable def TurnS (h₀ : Heap) (L I : Addr) (o : Obj) (J : (Str → Option Value) → List (Addr × Obj) → Prop) (s : Shared) (R : Result → Shared → Prop) (f : Flow) (s₃ : Shared) : Prop := match f with
  | .brk => R (.ok .next) s₃
  | .ret v => R (.ok (.ret v)) s₃
  | _ => ∃ m₂ news₂, Same s s₃ ∧ Fr h₀ L s₃.heap m₂ ∧ News h₀ L s₃.heap ((I, o) :: news₂) ∧ (∀ p ∈ news₂, p.1 ≠ I) ∧ J m₂ news₂
theorem TurnS.intro {I : Addr} {o : Obj} {J : (Str → Option Value) → List (Addr × Obj) → Prop} {R : Result → Shared → Prop} {s₃ : Shared} {m₂ : Str → Option Value} {news₂ : List (Addr × Obj)}
    (hs : Same s s₃) (F : Fr h₀ L s₃.heap m₂) (N : News h₀ L s₃.heap ((I, o) :: news₂)) (hI : ∀ p ∈ news₂, p.1 ≠ I) (hJ : J m₂ news₂) : TurnS h₀ L I o J s R .next s₃ := ⟨m₂, news₂, hs, F, N, hI, hJ⟩
theorem forWS {I : Addr} {fp : List Addr} {n : Nat} {P : Nat → Value → Prop} {St : Nat → Heap → Prop} {target : Expr} {body : List Stmt} {R : Result → Shared → Prop} (W : Walks prog w A I fp [I] n P St)
    (hlive : ∀ i h, St i h → ∃ o, h.get? I = some o) (fpo : List (Addr × Obj)) (hfp : ∀ b ∈ fp, b = I ∨ ∃ o, (b, o) ∈ fpo) (J : Nat → (Str → Option Value) → List (Addr × Obj) → Prop)
    (hk : ∀ i m₁ news₁, J i m₁ news₁ → ∀ p ∈ fpo, p ∈ news₁ ∨ h₀.get? p.1 = some p.2) {o₀ : Obj} (hst : St 0 s.heap) (F : Fr h₀ L s.heap m) (N : News h₀ L s.heap ((I, o₀) :: news)) (hI : ∀ p ∈ news, p.1 ≠ I) (h0 : J 0 m news)
    (step : ∀ i v m₁ news₁ s₁ o, i < n → P i v → J i m₁ news₁ → (∀ p ∈ news₁, p.1 ≠ I) → Same s s₁ → Fr h₀ L s₁.heap m₁ → News h₀ L s₁.heap ((I, o) :: news₁) →
      wpAny (model prog w) A (assign target env v) (fun _ s₂ => wpAny (model prog w) A (execs body env) (TurnS h₀ L I o (J (i + 1)) s R) (notedBy (model prog w) A env fun e s' => R (.error e) s') s₂) (notedBy (model prog w) A env fun e s' => R (.error e) s') s₁)
    (done : ∀ m₁ news₁ s₁, J n m₁ news₁ → Same s s₁ → Fr h₀ L s₁.heap m₁ → News h₀ L s₁.heap news₁ → R (.ok .next) s₁)
    (ht : ∀ v, letOwnedTupleGo target (.ref I) v = pure () := by intro _; rfl) : codeAny (model prog w) A (.forLoop target (.ref I) body [] env) R s := by
  have hIL := (N (I, o₀) (.head _)).2
  refine codeAny_forLoop (fun k s' => ∃ m₁ news₁ o i, i ≤ n ∧ k = n - i ∧ Same s s' ∧ St i s'.heap ∧ Fr h₀ L s'.heap m₁ ∧ News h₀ L s'.heap ((I, o) :: news₁) ∧ (∀ p ∈ news₁, p.1 ≠ I) ∧ J i m₁ news₁) ?_ n
    ⟨m, news, o₀, 0, Nat.zero_le _, rfl, .refl, hst, F, N, hI, h0⟩ ht
  rintro k s' ⟨m₁, news₁, o, i, hi, rfl, hsm, hS, F₁, N₁, hI₁, hJ⟩
  have Nn : News h₀ L s'.heap news₁ := fun p hp => N₁ p (.tail _ hp)
  by_cases hlt : i < n
  · refine W.item i _ _ _ hlt hS fun v h' tk' hP hS' he => ?_
    obtain ⟨o', ho'⟩ := hlive _ _ hS'
    have F' := fr_but F₁ he hIL.1 hIL.2
    have N' : News h₀ L h' ((I, o') :: news₁) := fun p hp => by
      rcases List.mem_cons.mp hp with rfl | hp
      · exact ⟨ho', hIL⟩
      · exact news_but Nn he hI₁ p hp
    refine wpAny_mono (step i v m₁ news₁ { s' with heap := h', toks := tk' } o' hlt hP hJ hI₁ hsm F' N') (fun _ s₂ hb => wpAny_mono hb (fun f s₃ hf => ?_) fun _ _ e => e) fun _ _ e => e
    have fin : (∃ m₂ news₂, Same s s₃ ∧ Fr h₀ L s₃.heap m₂ ∧ News h₀ L s₃.heap ((I, o') :: news₂) ∧ (∀ p ∈ news₂, p.1 ≠ I) ∧ J (i + 1) m₂ news₂) → ∃ k, k < n - i ∧
        ∃ m₁ news₁ o j, j ≤ n ∧ k = n - j ∧ Same s s₃ ∧ St j s₃.heap ∧ Fr h₀ L s₃.heap m₁ ∧ News h₀ L s₃.heap ((I, o) :: news₁) ∧ (∀ p ∈ news₁, p.1 ≠ I) ∧ J j m₁ news₁ := by
      rintro ⟨m₂, news₂, hs₃, F₃, N₃, hI₃, hJ₃⟩
      refine ⟨n - (i + 1), by omega, m₂, news₂, o', i + 1, hlt, rfl, hs₃, ?_, F₃, N₃, hI₃, hJ₃⟩
      refine W.frame _ _ _ hS' fun b hb ob hob => ?_
      rcases hfp b hb with rfl | ⟨o₁, ho₁⟩
      · rw [ho'] at hob; cases hob; exact (N₃ _ (.head _)).1
      · have e1 : h'.get? b = some o₁ := (hk _ _ _ hJ _ ho₁).elim (fun hm => (N' _ (.tail _ hm)).1) fun e => F'.keep _ _ e
        rw [e1] at hob; cases hob
        exact (hk _ _ _ hJ₃ _ ho₁).elim (fun hm => (N₃ _ (.tail _ hm)).1) fun e => F₃.keep _ _ e
    cases f with
    | next => exact fin hf
    | cont => exact fin hf
    | brk => exact hf
    | ret v => exact hf
  · obtain rfl : i = n := by omega
    refine W.done _ _ _ hS fun h' tk' he => ?_
    exact wpAny_execs_nil (done m₁ news₁ { s' with heap := h', toks := tk' } hJ hsm (fr_but F₁ he hIL.1 hIL.2) (news_but Nn he hI₁))
theorem forListS {I l : Addr} {vs : List Value} {ol : Obj} {target : Expr} {body : List Stmt} {R : Result → Shared → Prop} (hh : A.handled = none) (hlI : l ≠ I) (J : Nat → (Str → Option Value) → List (Addr × Obj) → Prop)
    (hol : ol.cls = .type "list" ∧ ∃ n, ol.data = .seq vs.toArray n) (hk : ∀ i m₁ news₁, J i m₁ news₁ → (l, ol) ∈ news₁ ∨ h₀.get? l = some ol) (F : Fr h₀ L s.heap m) (N : News h₀ L s.heap ((I, { cls := .type "list_iterator", data := .fields #[.ref l, .int 0 0] }) :: news)) (hI : ∀ p ∈ news, p.1 ≠ I) (h0 : J 0 m news)
    (step : ∀ i v m₁ news₁ s₁ o, i < vs.length → vs[i]? = some v → J i m₁ news₁ → (∀ p ∈ news₁, p.1 ≠ I) → Same s s₁ → Fr h₀ L s₁.heap m₁ → News h₀ L s₁.heap ((I, o) :: news₁) →
      wpAny (model prog w) A (assign target env v) (fun _ s₂ => wpAny (model prog w) A (execs body env) (TurnS h₀ L I o (J (i + 1)) s R) (notedBy (model prog w) A env fun e s' => R (.error e) s') s₂) (notedBy (model prog w) A env fun e s' => R (.error e) s') s₁)
    (done : ∀ m₁ news₁ s₁, J vs.length m₁ news₁ → Same s s₁ → Fr h₀ L s₁.heap m₁ → News h₀ L s₁.heap news₁ → R (.ok .next) s₁)
    (ht : ∀ v, letOwnedTupleGo target (.ref I) v = pure () := by intro _; rfl) : codeAny (model prog w) A (.forLoop target (.ref I) body [] env) R s := by
  have WK := Walks.list (prog := prog) (w := w) hh I l hlI vs.toArray
  simp only [List.size_toArray] at WK
  refine forWS WK (fun i h x => let ⟨o, e, _⟩ := x.1; ⟨o, e⟩) [(l, ol)] (fun b hb => ?_) J (fun i m₁ n₁ hj p hp => by rw [List.mem_singleton.mp hp]; exact hk i m₁ n₁ hj) ?_ F N hI h0 (fun i v m₁ n₁ s₁ o hi hP => step i v m₁ n₁ s₁ o hi (by simpa using hP)) done ht
  · rcases List.mem_cons.mp hb with rfl | hb
    · exact .inl rfl
    · rw [List.mem_singleton.mp hb]; exact .inr ⟨_, List.mem_singleton.mpr rfl⟩
  · refine ⟨⟨_, (N _ (.head _)).1, rfl, rfl⟩, ⟨ol, ?_, hol⟩⟩
    exact (hk 0 m news h0).elim (fun hm => (N _ (.tail _ hm)).1) fun e => F.keep _ _ e
/-- a for over a range by ones -/
theorem forRangeS {I : Addr} {a : Int} {n : Nat} {k : Int} {target : Expr} {body : List Stmt} {R : Result → Shared → Prop} (hh : A.handled = none) (hkn : k = (n : Int)) (J : Nat → (Str → Option Value) → List (Addr × Obj) → Prop)
    (F : Fr h₀ L s.heap m) (N : News h₀ L s.heap ((I, { cls := .type "range_iterator", data := .fields #[rawInt a, rawInt k, rawInt 1] }) :: news)) (hI : ∀ p ∈ news, p.1 ≠ I) (h0 : J 0 m news)
    (step : ∀ i t m₁ news₁ s₁ o, i < n → J i m₁ news₁ → (∀ p ∈ news₁, p.1 ≠ I) → Same s s₁ → Fr h₀ L s₁.heap m₁ → News h₀ L s₁.heap ((I, o) :: news₁) →
      wpAny (model prog w) A (assign target env (.int (a + (i : Nat)) t)) (fun _ s₂ => wpAny (model prog w) A (execs body env) (TurnS h₀ L I o (J (i + 1)) s R) (notedBy (model prog w) A env fun e s' => R (.error e) s') s₂) (notedBy (model prog w) A env fun e s' => R (.error e) s') s₁)
    (done : ∀ m₁ news₁ s₁, J n m₁ news₁ → Same s s₁ → Fr h₀ L s₁.heap m₁ → News h₀ L s₁.heap news₁ → R (.ok .next) s₁)
    (ht : ∀ v, letOwnedTupleGo target (.ref I) v = pure () := by intro _; rfl) : codeAny (model prog w) A (.forLoop target (.ref I) body [] env) R s := by
  have WK := Walks.range (prog := prog) (w := w) hh I a 1 n
  subst hkn
  refine forWS WK (fun i h x => ?_) [] (fun b hb => .inl (by simpa using hb)) J (fun i m₁ n₁ hj p hp => nomatch hp) ?_ F N hI h0 (fun i v m₁ n₁ s₁ o hi hP => ?_) done ht
  · exact ⟨_, x⟩
  · simpa using (N _ (.head _)).1
  · obtain ⟨t, rfl⟩ := hP
    have := step i t m₁ n₁ s₁ o hi
    simpa using this
end
end Mine
end
section -- Lw1
open PySem PySem.Spec PySem.Calls PySem.W PyProof.Rows
namespace Mine
noncomputable def isCell : Data → Bool
  | .cell _ => true
  | _ => false
/-- two entries of different kinds lie apart -/
theorem ne_kind {h₀ h : Heap} {L : Addr} {S : List (Addr × Obj)} (N : News h₀ L h S) {p q : Addr × Obj} (hp : p ∈ S) (hq : q ∈ S) (hd : isCell p.2.data ≠ isCell q.2.data) : @Ne Nat p.1 q.1 := fun e => by
  have h1 := (N p hp).1
  have h2 := (N q hq).1
  rw [show p.1 = q.1 from e, h2] at h1
  exact hd (by rw [Option.some.inj h1])
theorem Tab.fields {P ln col : Nat} {qual : Str} {t : List (Addr × Obj)} (x : Tab P ln col qual t) : ∀ p ∈ t, ∃ vs, p.2.data = .fields vs := by
  cases x with
  | empty => intro p hp; rw [List.mem_singleton.mp hp]; exact ⟨_, rfl⟩
  | full h1 h2 h3 =>
    intro p hp
    rcases List.mem_cons.mp hp with rfl | hp
    · exact ⟨_, rfl⟩
    · rw [List.mem_singleton.mp hp]; exact ⟨_, h2⟩
theorem Tabs.fields {tb : List (Addr × Obj)} (x : Tabs tb) : ∀ p ∈ tb, ∃ vs, p.2.data = .fields vs := by
  obtain ⟨a, b, c, y⟩ := x
  intro p hp
  rw [y.eq] at hp
  rcases List.mem_append.mp hp with hp | hp
  · exact y.a.fields p hp
  · rcases List.mem_append.mp hp with hp | hp
    · exact y.b.fields p hp
    · exact y.c.fields p hp
noncomputable def isFields : Data → Bool
  | .fields _ => true
  | _ => false
/-- what is no table lies apart from the tables -/
theorem tabs_apart {h₀ h : Heap} {L : Addr} {S tb : List (Addr × Obj)} (N : News h₀ L h S) (hT : Tabs tb) (ht : ∀ p ∈ tb, p ∈ S) {q : Addr × Obj} (hq : q ∈ S) (hd : isFields q.2.data = false) : ∀ p ∈ tb, p.1 ≠ q.1 := fun p hp e => by
  obtain ⟨vs, hv⟩ := hT.fields p hp
  have h1 := (N p (ht p hp)).1
  have h2 := (N q hq).1
  rw [e, h2] at h1
  rw [Option.some.inj h1, hv] at hd
  cases hd
theorem sep_of {h₀ h : Heap} {L : Addr} {front tb : List (Addr × Obj)} (N : News h₀ L h (front ++ tb)) (hT : Tabs tb) (hd : ∀ q ∈ front, isFields q.2.data = false) : Sep front tb := fun q hq p hp e =>
  tabs_apart N hT (fun _ hp => List.mem_append_right _ hp) (List.mem_append_left _ hq) (hd q hq) p hp e.symm
theorem cell_nf {o : Obj} {v : Option Value} (h : o.data = .cell v) : isFields o.data = false := by rw [h]; rfl
theorem ne_lc {h₀ h : Heap} {L l c : Addr} {S : List (Addr × Obj)} {vs : Array Value} {k : Nat} {o : Obj} {v : Option Value} (N : News h₀ L h S) (h1 : (l, W.listOf vs k) ∈ S) (h2 : (c, o) ∈ S) (hd : o.data = .cell v) : @Ne Nat l c :=
  ne_kind N h1 h2 (by show isCell (Data.seq _ _) ≠ isCell o.data; rw [hd]; exact Bool.false_ne_true)
theorem tabs_list {h₀ h : Heap} {L l : Addr} {S tb : List (Addr × Obj)} {vs : Array Value} {k : Nat} (N : News h₀ L h S) (hT : Tabs tb) (ht : ∀ p ∈ tb, p ∈ S) (h1 : (l, W.listOf vs k) ∈ S) : ∀ p ∈ tb, p.1 ≠ l := tabs_apart N hT ht h1 rfl
theorem tabs_cell {h₀ h : Heap} {L c : Addr} {S tb : List (Addr × Obj)} {o : Obj} {v : Option Value} (N : News h₀ L h S) (hT : Tabs tb) (ht : ∀ p ∈ tb, p ∈ S) (h2 : (c, o) ∈ S) (hd : o.data = .cell v) : ∀ p ∈ tb, p.1 ≠ c := tabs_apart N hT ht h2 (cell_nf hd)
/-- two maps agree but at the names told -/
noncomputable def Agree (xs : List Str) (m' m : Str → Option Value) : Prop := ∀ y, y ∉ xs → m' y = m y
theorem Agree.refl {xs : List Str} {m : Str → Option Value} : Agree xs m m := fun _ _ => rfl
theorem Agree.put {xs : List Str} {m₁ m : Str → Option Value} {x : Str} {v : Option Value} (h : Agree xs m₁ m) (hx : x ∈ xs) : Agree xs (fun y => if y = x then v else m₁ y) m := fun y hy => by
  by_cases e : y = x
  · exact absurd (e ▸ hx) hy
  · show (if y = x then v else m₁ y) = m y
    rw [if_neg e]; exact h y hy
theorem Agree.same {xs : List Str} {m₁ m : Str → Option Value} {x : Str} {v : Option Value} (h : Agree xs m₁ m) (hx : m x = v) : Agree xs (fun y => if y = x then v else m₁ y) m := fun y hy => by
  by_cases e : y = x
  · show (if y = x then v else m₁ y) = m y
    rw [if_pos e, e, hx]
  · show (if y = x then v else m₁ y) = m y
    rw [if_neg e]; exact h y hy
theorem Agree.trans {xs : List Str} {m₁ m₂ m₃ : Str → Option Value} (x : Agree xs m₁ m₂) (y : Agree xs m₂ m₃) : Agree xs m₁ m₃ := fun z hz => (x z hz).trans (y z hz)
theorem Agree.get {xs : List Str} {m₁ m₂ : Str → Option Value} (x : Agree xs m₁ m₂) (y : Str) {v : Option Value} (e : m₂ y = v) (h : y ∉ xs) : m₁ y = v := (x y h).trans e
/-- some of a list, by their places, and its rest -/
noncomputable def pkl {α : Type} (S : List α) : List Nat → Nat → List α
  | [], k => S.drop k
  | i :: r, k => match S.drop i with
    | [] => pkl S r k
    | a :: _ => a :: pkl S r k
theorem sub_pk {α : Type} {P : α → Prop} {S : List α} (is : List Nat) (k : Nat) (N : ∀ p ∈ S, P p) : ∀ p ∈ pkl S is k, P p := by
  induction is with
  | nil => exact fun p hp => N p (List.mem_of_mem_drop hp)
  | cons i r ih =>
    intro p hp
    unfold pkl at hp
    cases e : S.drop i with
    | nil => rw [e] at hp; exact ih p hp
    | cons a t =>
      rw [e] at hp
      rcases List.mem_cons.mp hp with rfl | hp
      · exact N _ (List.mem_of_mem_drop (i := i) (by rw [e]; exact .head _))
      · exact ih p hp
/-- what lies apart by its places alone -/
theorem apart_map {S S' : List (Addr × Obj)} {I : Addr} (h : ∀ p ∈ S, p.1 ≠ I) (e : S'.map (·.1) = S.map (·.1) := by rfl) : ∀ p ∈ S', p.1 ≠ I := fun p hp => by
  have : p.1 ∈ S.map (·.1) := e ▸ List.mem_map_of_mem hp
  obtain ⟨q, hq, hqe⟩ := List.mem_map.mp this
  exact hqe ▸ h q hq
end Mine
end
section -- Lw2
open PySem PySem.Spec PySem.Calls PySem.W PyProof.Rows
namespace Mine
theorem sep_comp {I C D : Addr} {oI oC oD : Obj} {front tb : List (Addr × Obj)} (ap : CApart I C D (front ++ tb)) (hs : Sep front tb) : Sep ((I, oI) :: (C, oC) :: (D, oD) :: front) tb := by
  intro q hq p hp
  have h3 := ap.off p (List.mem_append_right _ hp)
  rcases List.mem_cons.mp hq with rfl | hq
  · exact Ne.symm h3.1
  rcases List.mem_cons.mp hq with rfl | hq
  · exact Ne.symm h3.2.1
  rcases List.mem_cons.mp hq with rfl | hq
  · exact Ne.symm h3.2.2
  exact hs q hq p hp
theorem capart_of {I C D : Addr} {oI oC oD : Obj} {front tb tb' : List (Addr × Obj)} (ap : CApart I C D (front ++ tb)) (hs : Sep ((I, oI) :: (C, oC) :: (D, oD) :: front) tb') : CApart I C D (front ++ tb') := by
  refine ⟨fun p hp => ?_, ap.ic, ap.id, ap.cd⟩
  rcases List.mem_append.mp hp with hp | hp
  · exact ap.off p (List.mem_append_left _ hp)
  · exact ⟨Ne.symm (hs _ (.head _) p hp), Ne.symm (hs _ (.tail _ (.head _)) p hp), Ne.symm (hs _ (.tail _ (.tail _ (.head _))) p hp)⟩
theorem sep_tail {a : Addr × Obj} {front tb : List (Addr × Obj)} (hs : Sep (a :: front) tb) : Sep front tb := fun q hq => hs q (.tail _ hq)
theorem sep_cons {a : Addr × Obj} {front tb : List (Addr × Obj)} (ha : ∀ p ∈ tb, a.1 ≠ p.1) (hs : Sep front tb) : Sep (a :: front) tb := fun q hq => by
  rcases List.mem_cons.mp hq with rfl | hq
  · exact ha
  · exact hs q hq
end Mine
namespace Mine
/-- a statement of a for's body -/
noncomputable def forAt (k j : Nat) : Stmt := match lawAt k with
  | .For _ _ b _ _ => (b.drop j).headD (.Pass ⟨0, 0, 0, 0⟩)
  | _ => .Pass ⟨0, 0, 0, 0⟩
/-- the numbers at the places of one parity -/
noncomputable def selI (nums os : List Int) (i : Int) (k : Nat) : List Int := ((List.range k).filter (fun p => os.getD p 0 == i)).map (fun p => nums.getD p 0)
theorem selI_zero (nums os : List Int) (i : Int) : selI nums os i 0 = [] := rfl
theorem selI_yes {nums os : List Int} {i : Int} {k : Nat} (h : os.getD k 0 = i) : selI nums os i (k + 1) = selI nums os i k ++ [nums.getD k 0] := by
  have e : (os.getD k 0 == i) = true := beq_iff_eq.mpr h
  unfold selI; rw [List.range_succ, List.filter_append, List.map_append, List.filter_cons, if_pos e]; rfl
theorem selI_no {nums os : List Int} {i : Int} {k : Nat} (h : os.getD k 0 ≠ i) : selI nums os i (k + 1) = selI nums os i k := by
  have e : ¬ (os.getD k 0 == i) = true := fun x => h (beq_iff_eq.mp x)
  unfold selI; rw [List.range_succ, List.filter_append, List.map_append, List.filter_cons, if_neg e]; simp
theorem selI_len (nums os : List Int) (i : Int) (k : Nat) : (selI nums os i k).length ≤ k := by
  unfold selI; rw [List.length_map]; exact Nat.le_trans (List.length_filter_le _ _) (by rw [List.length_range]; exact Nat.le_refl _)
end Mine
namespace Mine
theorem put_same {m : Str → Option Value} {x : Str} {v : Option Value} (h : m x = v) : (fun y => if y = x then v else m y) = m := by
  funext y
  by_cases e : y = x
  · rw [if_pos e, e, h]
  · rw [if_neg e]
end Mine
namespace Mine
/-- one number counted -/
noncomputable def digStep (st i : Int) (l : List Int) (n : Int) : List Int := l.set (n - st).toNat (l.getD (n - st).toNat 0 + 1 - 2 * i)
noncomputable def digF (st i : Int) (l : List Int) (ns : List Int) : List Int := ns.foldl (digStep st i) l
theorem digF_len (st i : Int) (l : List Int) (ns : List Int) : (digF st i l ns).length = l.length := by
  unfold digF
  induction ns generalizing l with
  | nil => rfl
  | cons n r ih => rw [List.foldl_cons, ih]; exact List.length_set
theorem digF_take {st i : Int} {l ns : List Int} {j : Nat} {n : Int} (h : ns[j]? = some n) : digF st i l (ns.take (j + 1)) = digStep st i (digF st i l (ns.take j)) n := by
  unfold digF; rw [List.take_add_one, h, List.foldl_append]; rfl
end Mine
namespace Mine
theorem off_cell {h₀ h : Heap} {L c : Addr} {o : Obj} {S : List (Addr × Obj)} {v : Option Value} (N : News h₀ L h ((c, o) :: S)) (ho : o.data = .cell v) (hS : ∀ p ∈ S, isCell p.2.data = false ∨ @Ne Nat p.1 c) : ∀ p ∈ S, p.1 ≠ c := fun p hp =>
  (hS p hp).elim (fun e => ne_kind N (.tail _ hp) (.head _) (by rw [e]; show false ≠ isCell o.data; rw [ho]; exact Bool.false_ne_true)) id
theorem Tabs.nocell {tb : List (Addr × Obj)} {c : Addr} (x : Tabs tb) : ∀ p ∈ tb, isCell p.2.data = false ∨ @Ne Nat p.1 c := fun p hp => by
  obtain ⟨vs, e⟩ := x.fields p hp
  exact .inl (by rw [e]; rfl)
end Mine
end
section -- Lr
namespace Mine
/-- the ways of one total, one more number laid to them -/
noncomputable def wayT (ws : List Int) (d t : Int) : Int := ((ws.drop (if t - d + 1 > 0 then t - d + 1 else 0).toNat).take (min (t + 1).toNat ws.length - (if t - d + 1 > 0 then t - d + 1 else 0).toNat)).sum
noncomputable def wayN (ws : List Int) (d : Int) : Nat := ((ws.length : Int) + d - 1).toNat
noncomputable def wayI (ws : List Int) (d : Int) : List Int := (List.range (wayN ws d)).map fun (i : Nat) => wayT ws d (i : Int)
theorem wayI_len (ws : List Int) (d : Int) : (wayI ws d).length = wayN ws d := by unfold wayI; rw [List.length_map, List.length_range]
theorem wayI_get {ws : List Int} {d : Int} {i : Nat} (h : i < wayN ws d) : (wayI ws d)[i]? = some (wayT ws d (i : Int)) := by
  unfold wayI; rw [List.getElem?_map, List.getElem?_range h]; rfl
/-- the ways after all distances -/
noncomputable def waysF (ds : List Int) : List Int := ds.foldl wayI [1]
theorem waysF_take {ds : List Int} {i : Nat} {d : Int} (h : ds[i]? = some d) : waysF (ds.take (i + 1)) = wayI (waysF (ds.take i)) d := by
  unfold waysF; rw [List.take_add_one, h, List.foldl_append]; rfl
/-- the worth after some divisions -/
noncomputable def worthF (x b : Int) : Nat → Int
  | 0 => x
  | i + 1 => worthF x b i / b
noncomputable def signF : Nat → Int
  | 0 => 1
  | i + 1 => -signF i
noncomputable def prodF (ds : List Int) : Int := ds.foldl (fun p d => p * d) 1
theorem prodF_take {ds : List Int} {i : Nat} {d : Int} (h : ds[i]? = some d) : prodF (ds.take (i + 1)) = prodF (ds.take i) * d := by
  unfold prodF; rw [List.take_add_one, h, List.foldl_append]; rfl
/-- what the law takes of the script -/
noncomputable def cellsI (scr : List Int) : List Int := (scr.take 6 ++ [2, 4, 1, 3, 58, 21]).take 6
noncomputable def dsI (scr : List Int) : List Int := ((cellsI scr).take (2 + (scr.sum + 1).fmod 3).toNat).map fun x => 1 + x.fmod 5
noncomputable def stI (scr : List Int) : Int := ((cellsI scr).getD 4 0).fmod (10 ^ 6)
noncomputable def wdI (scr : List Int) : Int := 8 + ((cellsI scr).getD 5 0).fmod 40
theorem cellsI_len (scr : List Int) : (cellsI scr).length = 6 := by
  unfold cellsI; rw [List.length_take, List.length_append]; simp
end Mine
end
section -- Text2
open PySem PySem.Spec PySem.Calls PySem.W PyProof.Rows
namespace Mine
theorem spS_digit : ∀ c : Nat, 48 ≤ c → c ≤ 57 → spS ⟨#[c]⟩ = false := by
  intro c h1 h2
  obtain ⟨k, rfl⟩ := Nat.le.dest h1
  exact (by decide : ∀ k, k < 10 → spS ⟨#[48 + k]⟩ = false) k (Nat.lt_of_add_lt_add_left (Nat.lt_succ_of_le h2))
theorem rstrip_digits {x : Str} (h : NumText.AllDigits x.cps.toList) : Txt.rstrip x = x := by
  obtain ⟨hi, h1, h2, h3, _⟩ := rstrip_cut (x := x) fun c hc => by have := h c hc; omega
  have : hi = x.length := by
    refine Classical.byContradiction fun hn => ?_
    have hlt : hi < x.length := by omega
    have h4 := h3 hi (Nat.le_refl _) hlt
    have hm : x.cps.getD hi 0 ∈ x.cps.toList := by
      have hs : hi < x.cps.size := hlt
      simp [Array.getD, hs]
    have := h _ hm
    rw [spS_digit _ this.1 this.2] at h4
    cases h4
  rw [h2, this, strSub_whole]
theorem occ_none {x : Str} {c lim : Nat} (h : c ∉ x.cps.toList) : Builtin.Str.occurrences x ⟨#[c]⟩ 0 x.length lim = [] := by
  apply List.eq_nil_iff_forall_not_mem.mpr
  intro i hi
  obtain ⟨h1, h2⟩ := StrLaws.occ_spec x ⟨#[c]⟩ 0 x.length lim i hi
  have h3 := strSub_of_subAt h2
  have h4 := congrArg (fun y : Str => y.cps.toList) h3
  simp only [StrLaws.strSub_toList] at h4
  apply h
  have : c ∈ ((x.cps.toList.drop i).take (i + Str.length ⟨#[c]⟩ - i)) := by rw [h4]; simp
  exact List.mem_of_mem_drop (List.mem_of_mem_take this)
section
variable {prog : Program} {w : World} {A : Around} {E : Value → Shared → Prop} {s : Shared} {Q : Value → Shared → Prop} {x y z : Str} {t u v : Tok}
theorem replace_none (ho : Builtin.Str.occurrences x y 0 x.length (x.length + 1) = []) (h : Q (.str x t) s) : wpAny (model prog w) A (call (.builtin "str.replace") [.str x t, .str y u, .str z v]) Q E s := by
  have hc : ((Builtin.Str.occurrences x y 0 x.length (x.length + 1)).isEmpty || (y.length == 0 && z.length == 0)) = true := by rw [ho]; rfl
  refine call_gives PySem.F.slot_str_replace (typeIs_str _ _ _) PySem.F.entry_str_replace (PySem.F.args_str_replace_3 _ _ _) (gives_str_replace x y z t u v fun hf => ?_) ?_
  · rw [hc] at hf; cases hf
  · simp only [hc, if_true]
    exact h
end
theorem count_quote (l : List Nat) : Txt.count (tx l) (Str.ofString "\"") = (l.count 34 : Nat) := by
  have e : Str.ofString "\"" = ⟨#[34]⟩ := by decide +kernel
  rw [e, count_cnt]
  simp only [tx, cnt, countIn_signs_sum]
  induction l with
  | nil => rfl
  | cons n r ih =>
    rw [List.map_cons, List.sum_cons, ih, List.count_cons]
    by_cases h : n = 34
    · subst h; simp; omega
    · simp [h]
end Mine
end
section -- Gen2
open PySem PySem.Spec PySem.Calls PySem.W PyProof.Rows
namespace Mine
abbrev nAddr : Str := Str.ofString "addr"
abbrev nEnum : Str := Str.ofString "enumerate"
section
variable {prog : Program} {w : World} {A : Around} {p1 p2 p3 p4 p5 p6 p7 p8 p9 p10 p11 pa pb pt q1 q2 q3 q4 q5 q6 q7 q8 q9 qa qb qc qd : Pos} {k1 k2 k3 k7 kt : Nat} {X1 X2 X3 : List Stmt}
theorem enumWalks {A : Around} {e it : Addr} {l : List Nat} {t1 : Tok} (hh : A.handled = none) (hne : e ≠ it) :
    WalksT prog w A e [e, it] [e, it] l.length (gPt l) (fun i h => (∃ old, IsEnum h e it i old) ∧ h.IsStrIter it "str_ascii_iterator" (tx l) t1 i)
      (fun i T h => (∃ x, IsEnumOut h e it ((i : Int) + 1) x T) ∧ h.IsStrIter it "str_ascii_iterator" (tx l) t1 (i + 1) ∧ T ≠ e ∧ T ≠ it) := by
  have hsz : (tx l).cps.size = l.length := by simp [tx]
  have D := Draws.strAscii (prog := prog) (w := w) (A := A.in1) hh it (tx l) t1
  rw [hsz] at D
  have W := WalksT.enumerateD (A := A) D e hne (by simpa using hne) (by simp)
  exact { W with
    item := fun i s Q E hi hst hQ => W.item i s Q E hi hst fun T vals h' tk hP hT hT' hm hk => hQ T vals h' tk (by
      obtain ⟨t, x, ⟨c, u, hc, rfl⟩, rfl⟩ := hP
      exact ⟨c, t, u, by simpa [tx] using hc, rfl⟩) hT hT' hm hk }
abbrev gAll (p1 p2 p3 p4 p5 p6 p7 p8 p9 p10 p11 pa pb pt q1 q2 q3 q4 q5 q6 q7 q8 q9 qa qb qc : Pos) (k1 k2 k3 k7 kt : Nat) (X1 X2 X3 : List Stmt) : List Stmt :=
  [.Assign [.Name nPos q1] (.Constant (.int 0) k1 q2) q3, .Assign [.Name nEsc q4] (.Constant (.bool false) k2 q5) q6,
   .For (gTarget pa pb pt kt) (.Call (.Name nEnum q7) [.Name nAddr q8] [] q9) (gBody p1 p2 p3 p4 p5 p6 p7 p8 p9 p10 p11 k3 k7 X1 X2) [] qa,
   .If (.Name nEsc qb) X3 [] qc]
theorem seg_gStart {l : List Nat} {t1 : Tok} {m mg mb : Str → Option Value} {env : Env} (hh : A.handled = none)
    (hkf : env.scope.kind = .function) (hxp : env.kindOf nPos = some .local) (hxc : env.kindOf nCh = some .local) (hxe : env.kindOf nEsc = some .local) (hxa : env.kindOf nAddr = some .local) (hxn : env.kindOf nEnum = some .globalImplicit)
    (hp : (env.scope.kind == .class || (env.scope.kind == .module && env.locals != env.globals)) = false)
    (hco : env.scope.isCoroutine = false) (hi : interactive env = false) (hl : ∀ c ∈ l, c ≠ 92) (hasc : ∀ c ∈ l, c < 128)
    {s s₀ : Shared} (hn : s.heap.Ns env.locals m) (hm : m nAddr = some (.str (tx l) t1)) (hg : s.heap.Ns env.globals mg) (hmiss : mg nEnum = none) (hb : s.heap.Ns env.builtins mb) (hv : mb nEnum = some (.type "enumerate"))
    (hCg : env.locals ≠ env.globals) (hCb : env.locals ≠ env.builtins) {z : Nat} (hz : s.heap.objs.size = z) (hsince : GenSince env.locals [z + 1, z] s₀ s) :
    Seg (model prog w) A (gEnd env.locals [z + 1, z]) (gProto env.locals [z + 1, z] [z + 1, z] l) l.length s₀
      (.func (gAll p1 p2 p3 p4 p5 p6 p7 p8 p9 p10 p11 pa pb pt q1 q2 q3 q4 q5 q6 q7 q8 q9 qa qb qc k1 k2 k3 k7 kt X1 X2 X3) env)
      ((model prog w).den (.func (gAll p1 p2 p3 p4 p5 p6 p7 p8 p9 p10 p11 pa pb pt q1 q2 q3 q4 q5 q6 q7 q8 q9 qa qb qc k1 k2 k3 k7 kt X1 X2 X3) env)) [] s := by
  have hCz : env.locals < z := hz ▸ hn.lt
  refine seg_func (seg_execs_cons (seg_wrap (wpAny_Assign_Name (wpAny_Constant_int (wpAny_storeName_local hxp hn (fun h₁ hn₁ hs₁ => ?_) hp)))))
  dsimp only
  refine seg_execs_cons (seg_wrap (wpAny_Assign_Name (wpAny_Constant_bool (wpAny_storeName_local hxe hn₁ (fun h₂ hn₂ hs₂ => ?_) hp))))
  dsimp only
  replace hs₁ : Heap.SameBut env.locals s.heap h₁ := hs₁
  replace hs₂ : Heap.SameBut env.locals h₁ h₂ := hs₂
  refine seg_execs_cons ?_
  rw [exec_For]
  refine seg_bind_wrap (wpAny_standAt ?_)
  have hz₂ : h₂.objs.size = z := by rw [hs₂.1, hs₁.1, hz]
  clear hz
  subst hz₂
  refine seg_bind_wrap (wpAny_Call_NameR (Calls.Name_function_global hkf hxn (Calls.loadGlobal_builtin (hg.at' fun o x => hs₂.extBut _ o (Ne.symm hCg) (hs₁.extBut _ o (Ne.symm hCg) x)) hmiss
    (hb.at' fun o x => hs₂.extBut _ o (Ne.symm hCb) (hs₁.extBut _ o (Ne.symm hCb) x)) hv ?_)))
  refine PyProof.Rows.callWith_type rfl (Calls.evalArgs_plain (Calls.spliced_cons (wpAny_Name (wpAny_loadName_local hkf hxa hn₂ (v := .str (tx l) t1) ?_ (Calls.spliced_nil ?_)))))
  · rw [if_neg (by decide +kernel), if_neg (by decide +kernel)]; exact hm
  refine call_enumerate_str fun h₃ he hit hsz hk₃ => ?_
  dsimp only at he hit hsz hk₃
  refine seg_bind_wrap (wpAny_of_eq rfl ?_)
  refine seg_bind_wrap (wpAny_standAt ?_)
  refine seg_bind_wrap (wpAny_holding (wpAny_pyIter_enum he ?_))
  refine seg_call fun pp => ?_
  generalize h₂.objs.size = z at *
  have hne : (z + 1 : Nat) ≠ z := by omega
  have hCfp : env.locals ∉ [z + 1, z] := fun hm => by
    simp only [List.mem_cons, List.not_mem_nil, or_false] at hm
    rcases hm with e | e
    · rw [e] at hCz; exact absurd hCz (by show ¬ ((z + 1 : Nat) < z); omega)
    · rw [e] at hCz; exact absurd hCz (Nat.lt_irrefl _)
  have hstr : strIterType (tx l) = "str_ascii_iterator" := by
    unfold strIterType
    rw [if_pos (by simp [tx]; exact hasc)]
  rw [hstr] at hit
  have hall : ∀ b o, b ≠ env.locals → s.heap.get? b = some o → h₃.get? b = some o := fun b o hbC x => hk₃ b o (hs₂.extBut b o hbC (hs₁.extBut b o hbC x))
  refine seg_gLoop (St := fun i h => (∃ old, IsEnum h (z + 1) z i old) ∧ h.IsStrIter z "str_ascii_iterator" (tx l) t1 i) ?_ (fun A' hA => enumWalks hA hne) hkf hxp hxc hxe hp hco hi hCfp rfl rfl hl (fun i h hs b hb => ?_) (fun s₉ s' m' hn' he' hs' => ?_)
    l.length 0 s₀ _ _ (Nat.sub_zero _) (Nat.zero_le _) ⟨⟨_, he⟩, hit⟩ (hn₂.keeps hk₃) (if_pos rfl) (hsince.step fun b o hbC _ x => hall b o hbC x)
  · exact fun c => hh
  · simp only [List.mem_cons, List.not_mem_nil, or_false] at hb
    obtain ⟨⟨old, h1⟩, h2⟩ := hs
    rcases hb with rfl | rfl
    · exact ⟨_, h1⟩
    · exact ⟨_, h2.choose_spec.1⟩
  show Seg _ A _ _ 0 s₉ _ ((execs [] env).wrap (fun f => .pure (.done f)) .raise id id) _ s'
  refine seg_execs_nil ?_
  refine seg_leaf (.ok .next) ?_
  show Seg _ A _ _ 0 s₉ _ ((execs [.If (.Name nEsc qb) X3 [] qc] env).wrap _ _ _ _) _ s'
  refine seg_execs_cons ?_
  rw [exec_If]
  refine seg_bind_wrap (wpAny_standAt ?_)
  refine seg_bind_wrap (wpAny_isTrue_value (wpAny_Name (wpAny_loadName_local hkf hxe hn' (v := .bool false) he' (wpAny_truthy_bool ?_))))
  rw [if_neg Bool.false_ne_true]
  refine seg_execs_nil ?_
  refine seg_execs_nil ?_
  exact seg_end (.ok (.ret .none)) ⟨rfl, rfl, hs'⟩
end
end Mine
end
section -- Gen3
open PySem PySem.Spec PySem.Calls PySem.W PyProof.Rows
namespace Mine
section
variable {prog : Program} {w : World} {A : Around} {E : Value → Shared → Prop} {s : Shared} {h₀ : Heap} {L : Addr} {m : Str → Option Value} {env : Env}
noncomputable def TurnG (h₀ : Heap) (L : Addr) (own : List (Addr × Obj)) (J : (Str → Option Value) → List (Addr × Obj) → Prop) (s : Shared) (R : Result → Shared → Prop) (f : Flow) (s₃ : Shared) : Prop := match f with
  | .brk => R (.ok .next) s₃
  | .ret v => R (.ok (.ret v)) s₃
  | _ => ∃ h' tk' m₂ news₂, s₃ = { s with heap := h', toks := tk' } ∧ Fr h₀ L h' m₂ ∧ News h₀ L h' (news₂ ++ own) ∧ (∀ p ∈ news₂, ∀ q ∈ own, p.1 ≠ q.1) ∧ J m₂ news₂
theorem TurnG.intro {own : List (Addr × Obj)} {J : (Str → Option Value) → List (Addr × Obj) → Prop} {R : Result → Shared → Prop} {h' : Heap} {tk' : Nat} {m₂ : Str → Option Value} {news₂ : List (Addr × Obj)}
    (F : Fr h₀ L h' m₂) (N : News h₀ L h' (news₂ ++ own)) (hs : ∀ p ∈ news₂, ∀ q ∈ own, p.1 ≠ q.1) (hJ : J m₂ news₂) : TurnG h₀ L own J s R .next { s with heap := h', toks := tk' } := ⟨h', tk', m₂, news₂, rfl, F, N, hs, hJ⟩
abbrev GenI (prog : Program) (w : World) (A : Around) (s : Shared) (h₀ : Heap) (L a C z g : Addr) (oa : Obj) (l : List Nat) (J : Nat → (Str → Option Value) → List (Addr × Obj) → Prop) (k : Nat) (s' : Shared) : Prop :=
  ∃ h gens tk m₁ news₁ i gs', s' = { s with heap := h, gens := gens, toks := tk } ∧ i ≤ l.length ∧ k = l.length - i ∧ Fr h₀ L h m₁ ∧ News h₀ L h news₁ ∧ (∀ p ∈ news₁, p.1 ∉ a :: C :: [z + 1, z]) ∧ J i m₁ news₁ ∧ h.get? a = some oa ∧ GenOnly g s.gens gens ∧ gens[g]? = some gs' ∧
      gs'.Goes (model prog w) A.in1 (gEnd C [z + 1, z]) (gProto C [z + 1, z] [z + 1, z] l) (l.length - i) (.send .none) (({ s with heap := h, gens := gens, toks := tk } : Shared).setGen g .running)
theorem letOwned_gen {a g : Nat} {elts : List Expr} {k : Nat} {pos : Pos} {q : Addr} {Q : Unit → Shared → Prop} (hg : s.heap.IsGen a g) (h : Q () s) :
    wpAny (model prog w) A (letOwnedTupleGo (.Tuple elts k pos) (.ref a) (.ref q)) Q E s := by
  obtain ⟨o, nm, qn, ho, hc, hd, _⟩ := hg
  unfold letOwnedTupleGo
  dsimp only
  refine wpAny_bind (wpAny_load ho ?_)
  rw [hc, hd]
  exact wpAny_pure h
theorem forGen {a C z g : Nat} {oa : Obj} {l : List Nat} {x1 x2 : Str} {pa pb pt : Pos} {kt : Nat} {body : List Stmt} {R : Result → Shared → Prop} {news : List (Addr × Obj)} {gs : GenState}
    (hh : A.handled = none) (hroom : A.depth < recursionLimit) (hnl : h₀.NoLimit)
    (hx1 : env.kindOf x1 = some .local) (hx2 : env.kindOf x2 = some .local) (hp : (env.scope.kind == .class || (env.scope.kind == .module && env.locals != env.globals)) = false) (hL : env.locals = L)
    (J : Nat → (Str → Option Value) → List (Addr × Obj) → Prop)
    (hga : s.heap.IsGen a g) (hoa : s.heap.get? a = some oa) (ha : a ∉ C :: [z + 1, z]) (haL : a ≠ L) (ha0 : h₀.get? a = none) (hfr : ∀ b ∈ C :: [z + 1, z], b ≠ L ∧ h₀.get? b = none)
    (F : Fr h₀ L s.heap m) (N : News h₀ L s.heap news) (hsep : ∀ p ∈ news, p.1 ∉ a :: C :: [z + 1, z]) (h0 : J 0 m news)
    (hgs : s.gens[g]? = some gs) (hgo : gs.Goes (model prog w) A.in1 (gEnd C [z + 1, z]) (gProto C [z + 1, z] [z + 1, z] l) l.length (.send .none) (s.setGen g .running))
    (step : ∀ i c m₁ news₁ own h gens tk ti tc, i < l.length → l[i]? = some c → J i m₁ news₁ → Fr h₀ L h (fun y => if y = x2 then some (.str (tx [c]) tc) else if y = x1 then some (.int (i : Nat) ti) else m₁ y) → News h₀ L h (news₁ ++ own) → (∀ p ∈ news₁, ∀ q ∈ own, p.1 ≠ q.1) →
      wpAny (model prog w) A (execs body env) (TurnG h₀ L own (J (i + 1)) { s with heap := h, gens := gens, toks := tk } R) (notedBy (model prog w) A env fun e s' => R (.error e) s') { s with heap := h, gens := gens, toks := tk })
    (done : ∀ m₁ news₁ h gens tk, J l.length m₁ news₁ → Fr h₀ L h m₁ → News h₀ L h news₁ → GenOnlyQ g s.gens gens → R (.ok .next) { s with heap := h, gens := gens, toks := tk }) :
    codeAny (model prog w) A (.forLoop (.Tuple [.Name x1 pa, .Name x2 pb] kt pt) (.ref a) body [] env) R s := by
  subst hL
  refine codeAny_forLoop_any (GenI prog w A s h₀ env.locals a C z g oa l J) ?_ l.length
    ⟨s.heap, s.gens, s.toks, m, news, 0, gs, rfl, Nat.zero_le _, rfl, F, N, hsep, h0, hoa, ⟨rfl, fun _ _ => rfl⟩, hgs, hgo⟩
  rintro n s' ⟨h, gens, tk, m₁, news₁, i, gs', rfl, hi, rfl, F₁, N₁, hsep₁, hJ, hoa₁, hgo₁, hgs', hgoes⟩
  have hga₁ : h.IsGen a g := by
    obtain ⟨o, nm, qn, ho, r⟩ := hga
    rw [hoa] at ho; cases ho
    exact ⟨oa, nm, qn, hoa₁, r⟩
  have hkeep : ∀ {s₁ : Shared}, GenSince C [z + 1, z] (({ s with heap := h, gens := gens, toks := tk } : Shared).setGen g .running) s₁ → ∃ h' tk', s₁ = { s with heap := h', gens := (({ s with heap := h, gens := gens, toks := tk } : Shared).setGen g .running).gens, toks := tk' } ∧ (∀ b o, b ∉ C :: [z + 1, z] → h.get? b = some o → h'.get? b = some o) := by
    rintro s₁ ⟨h', tk', rfl, hk⟩
    exact ⟨h', tk', rfl, fun b o hb e => hk b o (fun q => hb (q ▸ List.mem_cons_self ..)) (fun q => hb (List.mem_cons_of_mem _ q)) e⟩
  have hLn : env.locals ∉ C :: [z + 1, z] := fun hm => (hfr _ hm).1 rfl
  have keepF : ∀ {h' : Heap}, (∀ b o, b ∉ C :: [z + 1, z] → h.get? b = some o → h'.get? b = some o) → Fr h₀ env.locals h' m₁ ∧ News h₀ env.locals h' news₁ := fun hk =>
    ⟨⟨F₁.ns.at' fun o e => hk _ o hLn e, fun b o e => hk b o (fun hm => by rw [(hfr b hm).2] at e; cases e) (F₁.keep b o e), F₁.above⟩,
     fun p hp => ⟨hk _ _ (fun hm => hsep₁ p hp (List.mem_cons_of_mem _ hm)) (N₁ p hp).1, (N₁ p hp).2⟩⟩
  refine wpAny_pyNext_gen (n := l.length - i) (P := fun n s₀ s₁ => n = 0 ∧ GenSince C [z + 1, z] s₀ s₁) hh (hnl.keeps F₁.keep) hroom hga₁ hgs' hgoes (fun v s₁ gs'' hv => ?_) (fun s₁ hp h'' hk'' => ?_)
  · obtain ⟨⟨c, q, ti, tc, hc, rfl, hT⟩, hsince, halive, hkap⟩ := hv
    obtain ⟨h', tk', rfl, hk⟩ := hkeep hsince
    obtain ⟨F', N'⟩ := keepF hk
    dsimp only
    have hlt : i < l.length := by
      refine Classical.byContradiction fun hn => ?_
      have h0 : l.length - i = 0 := by omega
      rw [h0] at hkap
      exact hkap (({ s with heap := h', gens := gens, toks := tk } : Shared)) fun _ _ _ e => e
    obtain ⟨k, hkk⟩ : ∃ k, l.length - i = k + 1 := ⟨l.length - i - 1, by omega⟩
    rw [hkk] at hkap hc hT
    have hidx : l.length - 1 - (k + 1 - 1) = i := by omega
    rw [hidx] at hc hT
    obtain ⟨oC, hoC⟩ := halive C (List.mem_cons_self ..)
    obtain ⟨oe, hoe⟩ := halive (z + 1) (by simp)
    obtain ⟨oi, hoi⟩ := halive z (by simp)
    have hoa' : h'.get? a = some oa := hk a oa ha hoa₁
    have hga' : h'.IsGen a g := by
      obtain ⟨o, nm, qn, ho, r⟩ := hga₁
      rw [hoa₁] at ho; cases ho
      exact ⟨oa, nm, qn, hoa', r⟩
    refine letOwned_gen hga' ?_
    refine wpAny_assign_Tuple hh hT rfl rfl fun h₁ hx₁ => ?_
    replace hx₁ : Heap.ExtBut h'.objs.size h' h₁ := hx₁
    have old₁ : ∀ b o, h'.get? b = some o → h₁.get? b = some o := fun b o x => hx₁ b o (Nat.ne_of_lt (Heap.lt_size x)) x
    show wpAny _ _ (do holding [Value.str (tx [c]) tc] (assign (.Name x1 pa) env (.int i ti)); holding [] (assign (.Name x2 pb) env (.str (tx [c]) tc)); pure ()) _ _ _
    refine wpAny_bind (wpAny_holding (wpAny_assign_Name (wpAny_storeName_local hx1 (F'.ns.keeps old₁) (fun h₂a hn₂a hs₂a => ?_) hp)))
    replace hs₂a : Heap.SameBut env.locals h₁ h₂a := hs₂a
    refine wpAny_bind (wpAny_holding (wpAny_assign_Name (wpAny_storeName_local hx2 hn₂a (fun h₂ hn₂ hs₂ => wpAny_pure ?_) hp)))
    replace hs₂ : Heap.SameBut env.locals h₂a h₂ := hs₂
    have up : ∀ b o, b ≠ env.locals → h'.get? b = some o → h₂.get? b = some o := fun b o hb x => hs₂.extBut b o hb (hs₂a.extBut b o hb (old₁ b o x))
    have F₂ : Fr h₀ env.locals h₂ (fun y => if y = x2 then some (.str (tx [c]) tc) else if y = x1 then some (.int (i : Nat) ti) else m₁ y) :=
      ⟨hn₂, fun b o x => up b o (Nat.ne_of_lt (Nat.lt_of_lt_of_le (Heap.lt_size x) F'.above)) (F'.keep b o x), F'.above⟩
    obtain ⟨own, own0, m1, m2, m3, m4, hown⟩ : ∃ own, News h₀ env.locals h₂ own ∧ (a, oa) ∈ own ∧ (C, oC) ∈ own ∧ (z + 1, oe) ∈ own ∧ (z, oi) ∈ own ∧ ∀ q ∈ own, q.1 ∈ a :: C :: [z + 1, z] := by
      refine ⟨[(a, oa), (C, oC), (z + 1, oe), (z, oi)], List.forall_mem_cons.mpr ⟨⟨up _ _ haL hoa', haL, ha0⟩, List.forall_mem_cons.mpr ⟨⟨up _ _ (hfr C (.head _)).1 hoC, hfr C (.head _)⟩, List.forall_mem_cons.mpr ⟨⟨up _ _ (hfr (z + 1) (.tail _ (.head _))).1 hoe, hfr (z + 1) (.tail _ (.head _))⟩, List.forall_mem_cons.mpr ⟨⟨up _ _ (hfr z (.tail _ (.tail _ (.head _)))).1 hoi, hfr z (.tail _ (.tail _ (.head _)))⟩, fun _ h => nomatch h⟩⟩⟩⟩, .head _, .tail _ (.head _), .tail _ (.tail _ (.head _)), .tail _ (.tail _ (.tail _ (.head _))), ?_⟩
      exact List.forall_mem_cons.mpr ⟨.head _, List.forall_mem_cons.mpr ⟨.tail _ (.head _), List.forall_mem_cons.mpr ⟨.tail _ (.tail _ (.head _)), List.forall_mem_cons.mpr ⟨.tail _ (.tail _ (.tail _ (.head _))), fun _ h => nomatch h⟩⟩⟩⟩
    have N₂ : News h₀ env.locals h₂ (news₁ ++ own) := fun p hp => by
      rcases List.mem_append.mp hp with hp | hp
      · exact ⟨up _ _ (N' p hp).2.1 (N' p hp).1, (N' p hp).2⟩
      · exact own0 p hp
    refine wpAny_mono (step i c m₁ news₁ own h₂ _ _ ti tc hlt hc hJ F₂ N₂ fun p hp q hq e => hsep₁ p hp (e ▸ hown q hq)) (fun f s₃ hf => ?_) fun _ _ e => e
    have fin : (∃ h' tk' m₂ news₂, s₃ = { s with heap := h', gens := ((({ s with heap := h', gens := (({ s with heap := h, gens := gens, toks := tk } : Shared).setGen g .running).gens, toks := tk' } : Shared).setGen g gs'').gens), toks := tk' } ∧ Fr h₀ env.locals h' m₂ ∧ News h₀ env.locals h' (news₂ ++ own) ∧ (∀ p ∈ news₂, ∀ q ∈ own, p.1 ≠ q.1) ∧ J (i + 1) m₂ news₂) → ∃ m, m < l.length - i ∧ GenI prog w A s h₀ env.locals a C z g oa l J m s₃ := by
      rintro ⟨h₃, tk₃, m₃, news₃, rfl, F₃, N₃, sep₃, J₃⟩
      have N3own : News h₀ env.locals h₃ own := fun p hp => N₃ p (List.mem_append_right _ hp)
      refine ⟨l.length - (i + 1), by omega, h₃, _, tk₃, m₃, news₃, i + 1, gs'', rfl, hlt, rfl, F₃, fun p hp => N₃ p (List.mem_append_left _ hp), fun p hp hm => ?_, J₃, (N3own _ m1).1, hgo₁.trans ((GenOnly.setGen _ g .running).trans (GenOnly.setGen _ g gs'')), setGen_self (gs := .running) (setGen_self hgs'), ?_⟩
      · simp only [List.mem_cons, List.not_mem_nil, or_false] at hm
        rcases hm with e | e | e | e
        · exact sep₃ p hp _ m1 e
        · exact sep₃ p hp _ m2 e
        · exact sep₃ p hp _ m3 e
        · exact sep₃ p hp _ m4 e
      · have hk1 : l.length - (i + 1) = k := by omega
        rw [hk1]
        refine hkap _ fun b hb o ho => ?_
        simp only [List.mem_cons, List.not_mem_nil, or_false] at hb
        rcases hb with rfl | rfl | rfl
        · rw [hoC] at ho; cases ho; exact (N3own _ m2).1
        · rw [hoe] at ho; cases ho; exact (N3own _ m3).1
        · rw [hoi] at ho; cases ho; exact (N3own _ m4).1
    cases f with
    | next => exact fin hf
    | cont => exact fin hf
    | brk => exact hf
    | ret v => exact hf
  · obtain ⟨h0', hsince⟩ := hp
    obtain ⟨h', tk', rfl, hk⟩ := hkeep hsince
    obtain ⟨F', N'⟩ := keepF hk
    obtain rfl : i = l.length := by omega
    dsimp only
    refine wpAny_execs_nil ?_
    have F'' : Fr h₀ env.locals h'' m₁ := ⟨F'.ns.keeps hk'', fun b o e => hk'' b o (F'.keep b o e), F'.above⟩
    have N'' : News h₀ env.locals h'' news₁ := fun p hp => ⟨hk'' _ _ (N' p hp).1, (N' p hp).2⟩
    refine done m₁ news₁ h'' _ _ hJ F'' N'' ?_
    exact GenOnlyQ.of (hgo₁.trans ((GenOnly.setGen _ g .running).trans (GenOnly.setGen _ g .finished))) (setGen_self (gs := .running) (setGen_self hgs')) rfl
end
end Mine
end
section -- ITER
open PySem PySem.Spec PySem.Calls PySem.W PyProof.Rows
namespace Mine

section
variable {prog : Program} {w : World} {A : Around} {s : Shared} {h₀ : Heap} {L : Addr} {m mg mb : Str → Option Value} {S : List (Addr × Obj)} {K : Frag} {p : Program} {loose : List Str} {mean : ExcName → Option Value}
  {R : Result → Shared → Prop} {name qual : Str} {params : Arguments} {body : List Stmt} {scope : Scope} {dV kV doc pm cdv ct oc : Value} {an od : Option Addr} {osl : Array (Option Value)} {f : Addr} {args : Args} {binds : List (Str × Value)}
theorem makeG (F : Fr h₀ L s.heap m) (X : K.In h₀) (N : News h₀ L s.heap S) (T : Top p loose mean mg mb h₀)
    (ho : K.lookup f = some ⟨oc, od, .func (fnOf name qual params body scope dV kV doc pm an cdv ct), osl⟩) (hcd : codeIn K cdv qual = true) (hroom : A.depth < recursionLimit)
    (hbind : BindsTo s (fnOf name qual params body scope dV kV doc pm an cdv ct) args binds) (hloc : ∀ y ∈ binds, scope.names.lookup y.1 = some .local)
    (hcell : ∀ x ∈ scope.names, x.2 ≠ .cell) (hco : scope.isCoroutine = false) (hgen : scope.isGenerator = true) (hk : scope.kind = .function)
    (h : ∀ (h₁ h' : Heap) (tk : Nat), h₁.Ns s.heap.objs.size (fun y => binds.reverse.lookup y) → (∀ b o, s.heap.get? b = some o → h₁.get? b = some o) → h₁.objs.size = s.heap.objs.size + 1 →
      h' = h₁.push { cls := .type "generator", data := .fields #[.int s.gens.size 0, .str name (tk), .str qual (tk + 1)] } →
      R (.ok (.ret (.ref (s.heap.objs.size + 1)))) { s with gens := s.gens.push (.fresh (.func body (envOf qual scope s.heap.objs.size f cdv))), toks := tk + 1 + 1, heap := h' }) : codeAny (model prog w) A (.call (.ref f) args) R s := by
  refine codeAny_call_generator hroom ((X.keeps F.keep) _ _ ho) rfl hco hgen rfl (codeRec_of (X.keeps F.keep) hcd) (hbind _ _ _ _ ?_)
  refine wpAny_newFunctionEnv hcell hloc (fun h₁ hns hsb => ?_) hk
  have hk₁ : ∀ b o, s.heap.get? b = some o → h₁.get? b = some o := fun b o e => hsb.extBut b o (Nat.ne_of_lt (Heap.lt_size e)) (Heap.get?_push_of_some _ e)
  refine ⟨(T.nolimit.keeps F.keep).keeps hk₁, ?_⟩
  have hsz : h₁.objs.size = s.heap.objs.size + 1 := by rw [hsb.1, Heap.size_push]
  have := h h₁ _ (s.toks + binds.length) hns hk₁ hsz rfl
  dsimp only
  rw [hsz]
  exact this
end
theorem iter_make (w : World) {mean : ExcName → Option Value} {mg mb : Str → Option Value}
    {dp un : Nat} {gd : Option (List Code)} {cn : Str} {cs : Scope} {a : Addr} {ccd : Value} {cl : List (Str × Addr)} {outer : List Env} {A₀ : Around} {base h₀ : Heap} {L : Addr} {m : Str → Option Value} {s : Shared}
    {Q E : Value → Shared → Prop}
    (B : Below A₀ base outer h₀) (F : Fr h₀ L s.heap m) (X : (Mine.hd.heap_39 w.params).In h₀) (T : Top topProg Mine.loose39 mean mg mb h₀) (hk : cs.kind = .function) {l : List Nat} {t1 : Tok} {news : List (Addr × Obj)} (N : News h₀ L s.heap news) (hd : dp < recursionLimit) (hl : ∀ c ∈ l, c ≠ 92) (hasc : ∀ c ∈ l, c < 128)
    (hret : ∀ (h' : Heap) (tk' : Nat) (C : Addr) (g : Nat) (oa : Obj) (c : Code), Fr h₀ L h' m → News h₀ L h' news → C = s.heap.objs.size → g = s.gens.size → h'.objs.size = C + 1 + 1 → h'.IsGen (C + 1) g → h'.get? (C + 1) = some oa → (∃ oC, h'.get? C = some oC) →
      (∀ (A : Around) (s' : Shared), A.handled = none → s'.heap = h' → (GenState.fresh c).Goes (model (PySem.Challenge.rw_ul0012_01).prog w) A.in1 (gEnd C [C + 1 + 1 + 1, C + 1 + 1]) (gProto C [C + 1 + 1 + 1, C + 1 + 1] [C + 1 + 1 + 1, C + 1 + 1] l) l.length (.send .none) s') →
      Q (.ref (C + 1)) { s with heap := h', gens := s.gens.push (.fresh c), toks := tk' }) : wpAny (model (PySem.Challenge.rw_ul0012_01).prog w) (ktrTop dp un gd cn cs L a ccd cl outer) (call (.ref 85) [.str (tx l) t1]) Q E s := by
  refine wpAny_call ?_
  revert X; k_fill; intro X
  k_dflt (refine' makeG (binds := [(Str.ofString "addr", .str (tx l) t1)]) F X N T ?k6 ?k7 ?k8 ?k9 ?kB ?c5 ?c2 ?c3 ?c4 ?_; (case k6 => k_is); (case k7 => k_is); (case k8 => exact hd); (case k9 => exact BindsTo.of_eq rfl); (case kB => exact locs rfl); (case c5 => decide); (case c2 => exact rfl); (case c3 => exact rfl); (case c4 => exact rfl))
  intro h₁ h' tk hns hk₁ hsz he
  subst he
  have hk₂ : ∀ b o, s.heap.get? b = some o → (h₁.push { cls := .type "generator", data := .fields #[.int s.gens.size 0, .str (Str.ofString "_iter_escaped_chars") tk, .str (Str.ofString "_iter_escaped_chars") (tk + 1)] }).get? b = some o := fun b o e => Heap.get?_push_of_some _ (hk₁ b o e)
  have hgsz := Heap.get?_push_size h₁ (o := { cls := .type "generator", data := .fields #[.int s.gens.size 0, .str (Str.ofString "_iter_escaped_chars") tk, .str (Str.ofString "_iter_escaped_chars") (tk + 1)] }) rfl
  rw [hsz] at hgsz
  refine hret _ _ s.heap.objs.size s.gens.size _ _ ⟨F.ns.keeps hk₂, fun b o e => hk₂ b o (F.keep b o e), F.above⟩ (fun p hp => ⟨hk₂ _ _ (N p hp).1, (N p hp).2⟩) rfl rfl (by rw [Heap.size_push, hsz]) ⟨_, _, _, hgsz, rfl, rfl, rfl⟩ hgsz ?_ ?_
  · obtain ⟨o, _, _, ho, _⟩ := hns
    exact ⟨o, Heap.get?_push_of_some _ ho⟩
  · intro A s' hA hs'
    refine ⟨rfl, ?_⟩
    have hk₃ : ∀ b o, s.heap.get? b = some o → s'.heap.get? b = some o := by rw [hs']; exact hk₂
    have hn' : s'.heap.Ns s.heap.objs.size (fun y => [(Str.ofString "addr", Value.str (tx l) t1)].reverse.lookup y) := by rw [hs']; exact hns.push _
    have hz' : s'.heap.objs.size = s.heap.objs.size + 1 + 1 := by rw [hs', Heap.size_push, hsz]
    have hg' : s'.heap.Ns mainGlobals mg := (T.g.keeps F.keep).keeps hk₃
    have hb' : s'.heap.Ns builtinsNs mb := (T.b.keeps F.keep).keeps hk₃
    have hCg : s.heap.objs.size ≠ mainGlobals := Nat.ne_of_gt (T.g.keeps F.keep).lt
    have hCb : s.heap.objs.size ≠ builtinsNs := Nat.ne_of_gt (T.b.keeps F.keep).lt
    have hmiss : mg nEnum = none := T.free _ (by decide +kernel) (by decide +kernel) (by decide +kernel) (by decide +kernel) (by decide +kernel)
    have hv : mb nEnum = some (.type "enumerate") := (T.builtins _ (by decide +kernel)).trans (by decide +kernel)
    refine seg_gStart (A := A.in1) (env := envOf _ _ s.heap.objs.size 85 _) (t1 := t1) hA rfl ?_ ?_ ?_ ?_ ?_ rfl rfl rfl hl hasc hn' ?_ hg' hmiss hb' hv hCg hCb hz' (GenSince.refl _ _ _)
    all_goals first | rfl | decide +kernel | skip
end Mine
end
section -- Strip
open PySem PySem.Spec PySem.Calls PySem.W PyProof.Rows
namespace Mine
/-- what stands outside the quotation marks -/
noncomputable def unq : Bool → List Nat → List Nat
  | _, [] => []
  | false, c :: r => if c = 34 then unq true r else c :: unq false r
  | true, c :: r => if c = 34 then unq false r else unq true r
structure SInv (l : List Nat) (i st : Nat) (op : Option Nat) (rs : List (List Nat)) : Prop where
  hst : st ≤ i
  hop : ∀ p, op = some p → st ≤ p ∧ p < i
  val : rs.flatten ++ ((l.drop st).take (op.getD i - st) ++ unq op.isSome (l.drop i)) = unq false l
  par : (l.drop i).count 34 % 2 = (if op.isSome then 1 else 0)
  len : rs.length ≤ i
  sum : (rs.map List.length).sum ≤ st
theorem SInv.start {l : List Nat} (h : l.count 34 % 2 = 0) : SInv l 0 0 none [] := ⟨Nat.le_refl _, fun _ h => (by cases h), by simp, by simpa using h, Nat.le_refl _, by simp⟩
theorem drop_step {l : List Nat} {i c : Nat} (hc : l[i]? = some c) : l.drop i = c :: l.drop (i + 1) := by
  obtain ⟨h, e⟩ := List.getElem?_eq_some_iff.mp hc
  rw [List.drop_eq_getElem_cons h, e]
theorem take_step {l : List Nat} {st i c : Nat} (hc : l[i]? = some c) (h : st ≤ i) : (l.drop st).take (i + 1 - st) = (l.drop st).take (i - st) ++ [c] := by
  rw [Nat.succ_sub h, List.take_add_one, List.getElem?_drop, Nat.add_sub_of_le h, hc]
  rfl
theorem SInv.other {l : List Nat} {i st c : Nat} {op : Option Nat} {rs : List (List Nat)} (x : SInv l i st op rs) (hc : l[i]? = some c) (h : c ≠ 34) : SInv l (i + 1) st op rs := by
  have hd := drop_step hc
  refine ⟨by have := x.hst; omega, fun p hp => ⟨(x.hop p hp).1, by have := (x.hop p hp).2; omega⟩, ?_, ?_, by have := x.len; omega, x.sum⟩
  · rw [← x.val, hd]
    cases op with
    | none =>
      simp only [Option.getD_none, Option.isSome_none, unq, if_neg h]
      rw [take_step hc x.hst, List.append_assoc]; rfl
    | some p => simp [unq, h]
  · have := x.par
    rw [hd, List.count_cons_of_ne (by omega)] at this
    exact this
theorem SInv.opens {l : List Nat} {i st : Nat} {rs : List (List Nat)} (x : SInv l i st none rs) (hc : l[i]? = some 34) : SInv l (i + 1) st (some i) rs := by
  have hd := drop_step hc
  refine ⟨by have := x.hst; omega, fun p hp => ?_, ?_, ?_, by have := x.len; omega, x.sum⟩
  · cases hp; exact ⟨x.hst, by omega⟩
  · rw [← x.val, hd]; simp [unq]
  · have := x.par
    rw [hd, List.count_cons_self] at this
    simp only [Option.isSome_none, Option.isSome_some] at *
    simp at this ⊢
    omega
theorem SInv.shuts {l : List Nat} {i st p : Nat} {rs : List (List Nat)} (x : SInv l i st (some p) rs) (hc : l[i]? = some 34) : SInv l (i + 1) (i + 1) none (rs ++ [(l.drop st).take (p - st)]) := by
  have hd := drop_step hc
  obtain ⟨hp1, hp2⟩ := x.hop p rfl
  refine ⟨Nat.le_refl _, fun p hp => (by cases hp), ?_, ?_, ?_, ?_⟩
  · rw [← x.val, hd]; simp [unq]
  · have := x.par
    rw [hd, List.count_cons_self] at this
    simp only [Option.isSome_none, Option.isSome_some] at *
    simp at this ⊢
    omega
  · rw [List.length_append]; have := x.len; simp; omega
  · rw [List.map_append, List.sum_append]
    have := x.sum
    simp only [List.map_cons, List.map_nil, List.sum_cons, List.sum_nil, List.length_take]
    omega
theorem SInv.shuts0 {l : List Nat} {i st : Nat} {rs : List (List Nat)} (x : SInv l i st (some st) rs) (hc : l[i]? = some 34) : SInv l (i + 1) (i + 1) none rs := by
  have y := x.shuts hc
  refine ⟨y.hst, y.hop, ?_, y.par, by have := x.len; omega, by have := x.sum; have := (x.hop st rfl).2; omega⟩
  have := y.val
  simpa using this
theorem SInv.ends {l : List Nat} {st : Nat} {op : Option Nat} {rs : List (List Nat)} (x : SInv l l.length st op rs) : op = none ∧ rs.flatten ++ l.drop st = unq false l := by
  have h0 : op = none := by
    cases op with
    | none => rfl
    | some p => have := x.par; simp at this
  subst h0
  refine ⟨rfl, ?_⟩
  have := x.val
  simp only [Option.getD_none, Option.isSome_none, List.drop_length, unq, List.append_nil] at this
  rw [← this]
  congr 1
  rw [List.take_of_length_le (by rw [List.length_drop]; omega)]
theorem unq_none : ∀ {l : List Nat}, 34 ∉ l → unq false l = l
  | [], _ => rfl
  | c :: r, h => by
    rw [unq, if_neg (by intro e; exact h (by simp [e])), unq_none fun hm => h (by simp [hm])]
theorem join_tx (rs : List (List Nat)) : Txt.join (Str.ofString "") (rs.map tx) = tx rs.flatten := by
  have e := eq_of_beq (join_plain_closes (Str.ofString "") (rs.map tx))
  rw [e]
  have e0 : Str.ofString "" = tx [] := by decide +kernel
  rw [e0]
  clear e e0
  induction rs with
  | nil => rfl
  | cons r rs ih =>
    cases rs with
    | nil => simp [Str.join]
    | cons r' rs' =>
      have : Str.join (tx []) (tx r :: tx r' :: rs'.map tx) = tx r ++ tx [] ++ Str.join (tx []) (tx r' :: rs'.map tx) := rfl
      simp only [List.map_cons] at ih ⊢
      rw [this, ih, tx_add, tx_add]
      simp
theorem unq_mem : ∀ {b : Bool} {l : List Nat} {c : Nat}, c ∈ unq b l → c ∈ l ∧ c ≠ 34
  | _, [], _, h => by cases ‹Bool› <;> cases h
  | false, d :: r, c, h => by
    rw [unq] at h
    split at h
    · have := unq_mem h; exact ⟨List.mem_cons_of_mem _ this.1, this.2⟩
    · rcases List.mem_cons.mp h with rfl | h
      · exact ⟨List.mem_cons_self .., ‹_›⟩
      · have := unq_mem h; exact ⟨List.mem_cons_of_mem _ this.1, this.2⟩
  | true, d :: r, c, h => by
    rw [unq] at h
    split at h
    · have := unq_mem h; exact ⟨List.mem_cons_of_mem _ this.1, this.2⟩
    · have := unq_mem h; exact ⟨List.mem_cons_of_mem _ this.1, this.2⟩
end Mine
end
section -- STR
open PySem PySem.Spec PySem.Calls PySem.W PyProof.Rows
namespace Mine
local macro_rules | `(tactic| walk_at "none") => `(tactic| fail "none")
theorem clear_STR : True := by
  k_with_none
  w_top off
  exact True.intro

local macro_rules | `(tactic| k_all) => `(tactic| assumption)
local macro_rules | `(tactic| walk_at "call ref") => `(tactic| k_extra "my call")
local macro_rules | `(tactic| walk_at "pyIter ref") => `(tactic| k_extra "my iter")
local macro_rules | `(tactic| walk_at "exec For Tuple Call cons nil") => `(tactic| k_dflt (refine wpAny_For ?_))
theorem addrOf {P : Prop} {h₀ h : Heap} {L a : Addr} {o : Obj} (N : News h₀ L h [(a, o)]) (k : ∀ r, r = a → P) : P := k a rfl
theorem strs_app {vs ws : List Value} {xs ys : List Str} (h : StrsAre vs xs) (g : StrsAre ws ys) : StrsAre (vs ++ ws) (xs ++ ys) := by
  induction h with
  | nil => exact g
  | cons y t _ ih => exact .cons y t ih
theorem tx_lens : (Str.length ∘ tx) = List.length := by funext l; exact tx_len l
theorem gens_push {a : Array GenState} {c : Code} (hb : ∀ y ∈ a, y.bare = true) : ∀ y ∈ a.push (.fresh c), y.bare = true := fun y hy => by
  rcases Array.mem_push.mp hy with h | rfl
  · exact hb y h
  · rfl
theorem gen_new {g' : Heap} {L' C b : Nat} (h1 : g'.objs.size ≤ L') (h2 : L' < C) (hb : C ≤ b) : b ≠ L' ∧ g'.get? b = none := by
  refine ⟨by omega, ?_⟩
  cases e : g'.get? b with
  | none => rfl
  | some o => exact absurd (show (b : Nat) < g'.objs.size from Heap.lt_size e) (by omega)
theorem gen_notin3 (C : Nat) : C + 1 ∉ [C, C + 1 + 1 + 1, C + 1 + 1] := by simp
theorem gen_notin4 {r C : Nat} (h : r < C) : r ∉ [C + 1, C, C + 1 + 1 + 1, C + 1 + 1] := by
  simp only [List.mem_cons, List.not_mem_nil, or_false]; omega
noncomputable def opVal (op : Option Nat) (t : Tok) : Value := match op with
  | none => .none
  | some p => .int (p : Nat) t
theorem strip_ok (w : World) {mean : ExcName → Option Value} {mg mb : Str → Option Value}
    {dp un : Nat} {gd : Option (List Code)} {cn : Str} {cs : Scope} {a : Addr} {ccd : Value} {cl : List (Str × Addr)} {outer : List Env} {A₀ : Around} {base h₀ : Heap} {L : Addr} {m : Str → Option Value} {s : Shared}
    {Q E : Value → Shared → Prop}
    (B : Below A₀ base outer h₀) (F : Fr h₀ L s.heap m) (X : (Mine.hd.heap_39 w.params).In h₀) (T : Top topProg Mine.loose39 mean mg mb h₀) (hk : cs.kind = .function) {l : List Nat} {t1 : Tok}
    (hd : dp + 30 < recursionLimit) (hu : un + 120 < cLine) (hlen : l.length ≤ 1000) (hdg : ∀ c ∈ l, c = 32 ∨ c = 34 ∨ (48 ≤ c ∧ c ≤ 57)) (hq : l.count 34 % 2 = 0)
    (hret : ∀ h' tk' u g', ExtB [] s.heap h' → ((∀ y ∈ s.gens, y.bare = true) → ∀ y ∈ g', y.bare = true) → Q (.str (tx (unq false l)) u) { s with heap := h', gens := g', toks := tk' }) : wpAny (model (PySem.Challenge.rw_ul0012_01).prog w) (ktrTop dp un gd cn cs L a ccd cl outer) (call (.ref 92) [.str (tx l) t1]) Q E s := by
  revert X; k_fill; intro X
  (refine wpAny_call ?_); k_dflt (refine' enterPK (S := []) (binds := [(Str.ofString "addr", .str (tx l) t1)]) ?k1 ?k2 ?k3 ?k4 ?k5 ?kA ?kF ?kK ?k6 ?k7 ?k8 ?k9 ?kB ?_ ?c2 ?c3 ?c4 ?c5; (case kA => exact rfl); (case kF => exact rfl); (case kK => assumption); (case k1 => k_asm); (case k2 => k_asm); (case k3 => k_asm); (case k4 => first | exact News.nil | k_asm); (case k5 => k_asm); (case k6 => k_is); (case k7 => k_is); (case k8 => ktr_room); (case k9 => exact BindsTo.of_eq rfl); (case c5 => decide); (case kB => exact locs rfl); (case c2 => exact rfl); (case c3 => exact rfl); (case c4 => exact rfl); k_whole; intro g' L' h' FG' GX F' N' B' X' T' l0; (try dsimp only); (try k_fold))
  k_with "my call" => (k_dflt (refine' iter_make w ?b1 ?b2 ?b3 ?b4 ?b5 ?b7 ?a5 ?a1 ?a2 ?_; (case b1 => k_asm); (case b2 => k_asm); (case b3 => k_asm); (case b4 => k_asm); (case b5 => exact rfl); (case b7 => k_asm); (case a5 => exact (by omega : dp + 1 < recursionLimit)); (case a1 => intro c hc; have := hdg c hc; omega); (case a2 => intro c hc; have := hdg c hc; omega)); intro h9 tk9 C9 g9 oa9 c9 F9 N9 eC9 eg9 sz9 ga9 oa9' oC9 go9; (try dsimp only); (try k_fold))
  k_with "my iter" => (k_dflt (refine wpAny_pyIter_gen (by assumption) ?_); (try dsimp only))
  k_steps
  · have hno : 34 ∉ l := by
      intro hm
      have he : (Builtin.Str.occurrences (tx l) (Str.ofString "\"") 0 (tx l).length 1).isEmpty = true := by assumption
      have e2 : Str.ofString "\"" = ⟨#[34]⟩ := by decide +kernel
      rw [e2, empty_one] at he
      simp [tx, hm] at he
    rw [unq_none hno] at hret
    exact hret _ _ _ _ (ext_end GX (by assumption)) fun h => h
  refine addrOf N9 ?_
  intro r hr
  subst hr
  have hrl := (N9 _ (.head _)).2
  have hLC : @LT.lt Nat _ L' C9 := by rw [eC9]; exact Heap.Ns.lt (Fr.ns (h₀ := g') (by assumption))
  have hrC : @LT.lt Nat _ r C9 := by rw [eC9]; exact Heap.lt_size (((by assumption : News g' L' _ [(r, W.listOf #[] 0)])) _ (.head _)).1
  have hnew : ∀ b : Nat, @LE.le Nat _ C9 b → b ≠ L' ∧ g'.get? b = none := fun b hb => gen_new (L' := L') F9.above hLC hb
  refine forGen (L := L') (C := C9) (z := C9 + 1 + 1) (g := g9) (l := l) (gs := .fresh c9) rfl (by ktr_room) T'.nolimit rfl rfl rfl rfl
    (fun i m₁ news₁ => ∃ st ts op top vs rs k, m₁ (Str.ofString "start") = some (.int (st : Nat) ts) ∧ m₁ (Str.ofString "open_pos") = some (opVal op top) ∧ m₁ (Str.ofString "addr") = some (.str (tx l) t1) ∧ m₁ (Str.ofString "result") = some (.ref r) ∧ news₁ = [(r, W.listOf vs.toArray k)] ∧ StrsAre vs (rs.map tx) ∧ SInv l i st op rs)
    ga9 oa9' ?_ ?_ ?_ ?_ F9 N9 ?_ ⟨0, _, none, 0, [], [], 0, rfl, rfl, rfl, rfl, rfl, .nil, SInv.start hq⟩ ?_ ?_ ?_ ?_
  · exact gen_notin3 C9
  · exact (hnew (C9 + 1) (Nat.le_add_right _ _)).1
  · exact (hnew (C9 + 1) (Nat.le_add_right _ _)).2
  · intro b hb
    simp only [List.mem_cons, List.not_mem_nil, or_false] at hb
    rcases hb with rfl | rfl | rfl
    · exact hnew _ (Nat.le_refl _)
    · exact hnew (C9 + 1 + 1 + 1) (Nat.le_add_right_of_le (Nat.le_add_right_of_le (Nat.le_add_right _ _)))
    · exact hnew (C9 + 1 + 1) (Nat.le_add_right_of_le (Nat.le_add_right _ _))
  · intro p hp hm
    rw [List.mem_singleton.mp hp] at hm
    exact gen_notin4 hrC hm
  · rw [eg9]; exact Array.getElem?_push_size ..
  · exact go9 _ _ rfl rfl
  · rintro i c m₁ news₁ own h gens tk ti tc hi hc ⟨st, ts, op, top, vs, rs, k, e1, e2, e3, e4, rfl, hvs, hinv⟩ F₁ N₁ hso
    have hdc := hdg c (List.mem_of_getElem? hc)
    have hsz : (tx l).length ≤ 1000 := by rw [tx_len]; exact hlen
    have hvl : vs.length = rs.length := by rw [StrsAre.length hvs, List.length_map]
    have hsz2 : vs.toArray.size ≤ sizeLine := by rw [List.size_toArray, hvl, PySem.sizeLine_eq]; have := hinv.len; omega
    have hro : ∀ p ∈ own, p.1 ≠ r := fun p hp => Ne.symm (hso _ (.head _) p hp)
    by_cases hq34 : c = 34
    · subst hq34
      have hb : (tx [34] == Str.ofString "\"") = true := by
        have e2 : Str.ofString "\"" = tx [34] := by decide +kernel
        rw [e2, tx_beq]; simp
      cases op with
      | none =>
        replace e2 : m₁ (Str.ofString "open_pos") = some .none := e2
        have F₂ := fr_put (Str.ofString "start") (fr_put (Str.ofString "open_pos") (fr_put (Str.ofString "addr") (fr_put (Str.ofString "result") F₁ (by rw [if_neg (by decide +kernel), if_neg (by decide +kernel)]; exact e4)) (by rw [if_neg (by decide +kernel), if_neg (by decide +kernel)]; exact e3)) (by rw [if_neg (by decide +kernel), if_neg (by decide +kernel)]; exact e2)) (by rw [if_neg (by decide +kernel), if_neg (by decide +kernel)]; exact e1)
        clear F₁
        k_steps
        rename Fr _ _ _ _ => kF; rename News _ _ _ _ => kN
        exact TurnG.intro (news₂ := [(r, W.listOf vs.toArray k)]) kF kN hso ⟨st, _, some i, _, vs, rs, k, rfl, rfl, rfl, rfl, rfl, hvs, hinv.opens hc⟩
      | some p =>
        replace e2 : m₁ (Str.ofString "open_pos") = some (.int (p : Nat) top) := e2
        have F₂ := fr_put (Str.ofString "start") (fr_put (Str.ofString "open_pos") (fr_put (Str.ofString "addr") (fr_put (Str.ofString "result") F₁ (by rw [if_neg (by decide +kernel), if_neg (by decide +kernel)]; exact e4)) (by rw [if_neg (by decide +kernel), if_neg (by decide +kernel)]; exact e3)) (by rw [if_neg (by decide +kernel), if_neg (by decide +kernel)]; exact e2)) (by rw [if_neg (by decide +kernel), if_neg (by decide +kernel)]; exact e1)
        clear F₁
        have hpp := hinv.hop p rfl
        k_steps
        · rename Fr _ _ _ _ => kF; rename News _ _ _ _ => kN
          have hsl : Txt.slice (tx l) (some (st : Int)) (some (p : Int)) = tx ((l.drop st).take (p - st)) := by
            rw [tx_slice ⟨by omega, by omega, by omega⟩]
            have e1 : ((p : Int) - (st : Int)).toNat = p - st := by omega
            rw [e1]; simp
          rw [hsl] at kN
          simp only [List.push_toArray] at kN
          refine TurnG.intro (news₂ := [(r, W.listOf _ _)]) kF kN ?_ ⟨i + 1, _, none, 0, _, rs ++ [(l.drop st).take (p - st)], _, rfl, rfl, rfl, rfl, rfl, ?_, hinv.shuts hc⟩
          · intro q hq
            rw [List.mem_singleton.mp hq]
            exact hso (r, W.listOf vs.toArray k) (.head _)
          · rw [List.map_append]
            exact strs_app hvs (.cons _ _ .nil)
        · rename Fr _ _ _ _ => kF; rename News _ _ _ _ => kN
          have hsp : p = st := by omega
          rw [hsp] at hinv
          exact TurnG.intro (news₂ := [(r, W.listOf vs.toArray k)]) kF kN hso ⟨i + 1, _, none, 0, vs, rs, k, rfl, rfl, rfl, rfl, rfl, hvs, hinv.shuts0 hc⟩
    · have hb : (tx [c] == Str.ofString "\"") = false := by
        have e2 : Str.ofString "\"" = tx [34] := by decide +kernel
        rw [e2, tx_beq]; simpa using hq34
      have F₂ := fr_put (Str.ofString "start") (fr_put (Str.ofString "open_pos") (fr_put (Str.ofString "addr") (fr_put (Str.ofString "result") F₁ (by rw [if_neg (by decide +kernel), if_neg (by decide +kernel)]; exact e4)) (by rw [if_neg (by decide +kernel), if_neg (by decide +kernel)]; exact e3)) (by rw [if_neg (by decide +kernel), if_neg (by decide +kernel)]; exact e2)) (by rw [if_neg (by decide +kernel), if_neg (by decide +kernel)]; exact e1)
      clear F₁
      k_steps
      rename Fr _ _ _ _ => kF; rename News _ _ _ _ => kN
      exact TurnG.intro (news₂ := [(r, W.listOf vs.toArray k)]) kF kN hso ⟨st, _, op, _, vs, rs, k, rfl, rfl, rfl, rfl, rfl, hvs, hinv.other hc hq34⟩
  · rintro m₁ news₁ h gens tk ⟨st, ts, op, top, vs, rs, k, e1, e2, e3, e4, rfl, hvs, hinv⟩ F₁ N₁ hgens
    obtain ⟨h0, hv⟩ := hinv.ends
    have F₂ := fr_put (Str.ofString "start") (fr_put (Str.ofString "addr") (fr_put (Str.ofString "result") F₁ e4) e3) e1
    clear F₁
    have hfit : ¬ ((tx l).length : Int) ≥ 2 ^ 63 := by rw [tx_len]; omega
    have hsz : (tx l).length ≤ 1000 := by rw [tx_len]; exact hlen
    have hvl : vs.length = rs.length := by rw [StrsAre.length hvs, List.length_map]
    have hsz2 : vs.toArray.size ≤ sizeLine := by rw [List.size_toArray, hvl, PySem.sizeLine_eq]; have := hinv.len; omega
    k_with "call builtin:len" => (refine P.len_str hfit ?_)
    have hst := hinv.hst
    have hsum := hinv.sum
    have hrl := hinv.len
    have e0 : (Str.ofString "").length = 0 := by decide +kernel
    k_steps
    · rename News _ _ _ _ => kN
      have hsl : Txt.slice (tx l) (some (st : Int)) none = tx (l.drop st) := by
        rw [tx_slice_from (by omega) (by omega)]; simp
      rw [hsl] at kN
      simp only [List.push_toArray] at kN
      refine join_list (ys := (rs ++ [l.drop st]).map tx) (PySem.IsL.isList (kN _ (.head _)).1) ?_ ?_ ?_
      · rw [List.map_append]
        exact strs_app hvs (.cons _ _ .nil)
      · rw [List.map_map, tx_lens, e0, List.map_append, List.sum_append]
        simp only [List.map_cons, List.map_nil, List.sum_cons, List.sum_nil, List.length_drop]
        omega
      · intro t' k'
        rw [join_tx, List.flatten_append, show [l.drop st].flatten = l.drop st by simp, hv]
        k_steps
        exact hret _ _ _ _ (ext_end GX (by assumption)) fun hb => hgens.bare fun y hy => gens_push hb y hy
    · refine join_list (ys := rs.map tx) (PySem.IsL.isList (N₁ _ (.head _)).1) hvs ?_ ?_
      · rw [List.map_map, tx_lens, e0]
        omega
      · intro t' k'
        have hnil : l.drop st = [] := List.drop_of_length_le (by rw [tx_len] at *; omega)
        rw [hnil, List.append_nil] at hv
        rw [join_tx, hv]
        k_steps
        exact hret _ _ _ _ (ext_end GX (by assumption)) fun hb => hgens.bare fun y hy => gens_push hb y hy
end Mine
end
section -- Pop
open PySem PySem.Spec PySem.Calls PySem.W PyProof.Rows
namespace Mine
theorem noBool_set : typeLookup (.type "set") "__bool__" = pure none := by rw [typeLookup_type, builtinLookup_eq_fast]; kernel_rfl
section
variable {prog : Program} {w : World} {A : Around} {E : Value → Shared → Prop} {s : Shared} {a : Addr}
theorem wp_choose1 {M : Model} {src : Source} {n : Nat} {Q : Nat → Shared → Prop} (hn : n ≠ 0) (h : ∀ i dr, i < n → Q i { s with drawn := dr }) : wpAny M A (choose src n) Q E s := by
  intro Γ p hΓ
  unfold choose
  rw [Sem.wp_choose]
  exact ⟨hn, h _ _ (Nat.mod_lt _ (Nat.pos_of_ne_zero hn))⟩
theorem truthy_set {o : Obj} {es : Array (Int × Value)} {ep : Nat} {t : SetTable} {Q : Bool → Shared → Prop}
    (ho : s.heap.get? a = some o) (hex : o.ExactSet) (hd : o.data = .set es ep t) (hf : t.fits es.size = true) (hfit : (es.size : Int) < 2 ^ 63)
    (h : Q ((es.size : Int) != 0) { s with toks := s.toks + 1 + 1 }) : wpAny (model prog w) A (truthy (.ref a)) Q E s := by
  have hT : s.TypeIs (.ref a) "set" := ⟨o, ho, hex.1⟩
  have key : wpAny (model prog w) A (runValue (.builtin "len" ⟨[.ref a], []⟩)) (fun r s' => r = .int es.size (s.toks + 1) ∧ Q ((es.size : Int) != 0) s') E s := by
    refine wpAny_runValue (codeAny_builtin entry_len ?_)
    rw [Around.under_plainId plain_len _]
    exact wpAny_mono (wpAny_len_body_set (Q := fun r s' => r = .int es.size (s.toks + 1) ∧ Q ((es.size : Int) != 0) s') ho hex hd hf hfit ⟨rfl, h⟩)
      (fun fin s' h' => by obtain ⟨r, rfl, hq⟩ := h'; exact hq) fun _ _ e => e
  unfold truthy
  first
    | refine wpAny_bind (wpAny_callSpecial?_none (name := Str.ofString "__bool__") hT noBool_set ?_)
    | refine wpAny_bind (wpAny_pure (wpAny_bind (wpAny_callSpecial?_none (name := Str.ofString "__bool__") hT noBool_set ?_)))
  first
    | refine wpAny_bind (wpAny_specialOf (name := Str.ofString "__len__") hT F.slot_set_len.lookup ?_)
    | refine wpAny_bind (wpAny_pure (wpAny_bind (wpAny_specialOf (name := Str.ofString "__len__") hT F.slot_set_len.lookup ?_)))
  first
    | exact wpAny_bind (wpAny_mono key (fun r s' h' => by obtain ⟨rfl, hq⟩ := h'; exact wpAny_pure hq) fun _ _ e => e)
    | exact wpAny_bind (wpAny_pure (wpAny_bind (wpAny_mono key (fun r s' h' => by obtain ⟨rfl, hq⟩ := h'; exact wpAny_pure hq) fun _ _ e => e)))
variable {h₀ : Heap} {L sa : Addr} {m : Str → Option Value} {news : List (Addr × Obj)} {g : Obj → List (Addr × Obj)} {so : Obj} {S : Int → Bool} {n : Nat}
theorem truthy_setN {Q : Bool → Shared → Prop} (N : News h₀ L s.heap news) (U : UpdF sa so news g) (hso : so.SetObjOf (PySem.intKind prog w) S n) (hfit : (n : Int) < 2 ^ 63)
    (h : Q ((n : Int) != 0) { s with toks := s.toks + 1 + 1 }) : wpAny (model prog w) A (truthy (.ref sa)) Q E s := by
  obtain ⟨hex, es, ep, t, hd, _, _, hn, hf⟩ := hso
  subst hn
  obtain ⟨pre, post, rfl, _, _, _⟩ := U.split
  exact truthy_set (N _ (List.mem_append_right _ (.head _))).1 hex hd hf hfit h
theorem arr_one {α : Type} {xs : Array α} (h : xs.size = 1) : ∃ x, xs = #[x] := by
  obtain ⟨l⟩ := xs
  match l, h with
  | [x], _ => exact ⟨x, rfl⟩
theorem eraseAt_one {α : Type} (x : α) : SetTable.eraseAt #[x] 0 = #[] := by simp [SetTable.eraseAt]
/-- the last element is taken out -/
theorem setPop_one {k : Int} {o : Obj} {Q : Option Value → Shared → Prop} (ho : s.heap.get? sa = some o) (hso : o.SetObjOf (PySem.intKind prog w) S 1) (hS : ∀ j, S j = true → j = k)
    (h : ∀ h' o' dr t, Heap.SameBut sa s.heap h' → h'.get? sa = some o' → o'.SetObjOf (PySem.intKind prog w) (fun _ => false) 0 → Q (some (.int k t)) { s with heap := h', drawn := dr }) : wpAny (model prog w) A (setPop sa) Q E s := by
  obtain ⟨hex, es, ep, t, hd, hel, hmem, hn, hf⟩ := hso
  have hpl : t.place.size = 1 := by
    simp only [SetTable.fits, Bool.and_eq_true, beq_iff_eq, decide_eq_true_eq] at hf
    omega
  have hfl : t.fill ≤ t.mask := by
    simp only [SetTable.fits, Bool.and_eq_true, beq_iff_eq, decide_eq_true_eq] at hf
    exact hf.2
  obtain ⟨e, he⟩ := arr_one hn
  subst he
  obtain ⟨⟨k', hk', hh⟩, _⟩ := hel e (by simp)
  have hkk : k' = k := hS k' ((hmem k').mpr ⟨e, by simp, hk'⟩)
  subst hkk
  obtain ⟨tk, htk⟩ := Value.isInt_shape hk'
  have hpp : t.popPlace = some 0 := by
    unfold SetTable.popPlace
    rw [if_neg (by simp [Array.isEmpty, hpl])]
    dsimp only
    split
    · congr 1; omega
    · rfl
  have hel' : ElemsOf (PySem.intKind prog w) (#[] : Array (Int × Value)).toList := fun e he => by simp at he
  have hf' : (t.popped 0).fits (#[] : Array (Int × Value)).size = true := by
    obtain ⟨j, hj⟩ := arr_one hpl
    have hf2 : 1 + t.dummies.size ≤ t.mask := by simpa [SetTable.fill, hpl] using hfl
    unfold SetTable.popped SetTable.drop
    simp [hj, SetTable.fits, SetTable.fill, SetTable.insertAt, eraseAt_one]
    omega
  have st := SetOf_store (knd := PySem.intKind prog w) (S' := fun _ => false) ho hex hd hel' (fun k => by simp) (by decide) hf'
  have fin : ∀ dr, wpAny (model prog w) A (do
      let some (_, x) := (#[e] : Array (Int × Value))[0]? | unsupported "internal:set.pop"
      storeSet sa (SetTable.eraseAt #[e] 0) (t.popped 0)
      return some x) Q E { s with drawn := dr } := fun dr => by
    show wpAny _ _ (storeSet sa (SetTable.eraseAt #[e] 0) (t.popped 0) >>= fun _ => pure (some e.2)) _ _ _
    rw [eraseAt_one]
    refine wpAny_bind (wpAny_storeSet_of ho hd (wpAny_pure ?_) (by simp))
    obtain ⟨so', ho', hso'⟩ := st.2.objOf
    rw [htk]
    exact h _ _ dr tk (Heap.SameBut.update _ _ _) ho' hso'
  unfold setPop
  refine wpAny_bind (wpAny_setState_of ho hd hf ?_)
  dsimp only
  rw [hpp]
  dsimp only
  unfold setsByText
  refine wpAny_bind (wpAny_bind (wpAny_askSetting (wpAny_pure ?_)))
  split
  · refine wpAny_bind (wp_choose1 (by simp) fun i dr hi => ?_)
    obtain rfl : i = 0 := by simpa using hi
    exact fin dr
  · refine wpAny_bind ?_
    show wpAny _ _ (if (!t.led && decide ((#[e] : Array (Int × Value)).size > 1)) = true then unsupported "set:maker-not-led" else pure ()) _ _ _
    rw [if_neg (by simp)]
    exact wpAny_pure (wpAny_bind (wpAny_pure (fin s.drawn)))
/-- `x.pop()` of a set of one element -/
theorem set_popN {k : Int} {Q : Value → Shared → Prop} (F : Fr h₀ L s.heap m) (N : News h₀ L s.heap news) (U : UpdF sa so news g) (hso : so.SetObjOf (PySem.intKind prog w) S 1) (hS : ∀ j, S j = true → j = k)
    (h : ∀ h' so' dr t, Fr h₀ L h' m → News h₀ L h' (g so') → so'.SetObjOf (PySem.intKind prog w) (fun _ => false) 0 → Q (.int k t) { s with heap := h', drawn := dr }) :
    wpAny (model prog w) A (call (.builtin "set.pop") [.ref sa]) Q E s := by
  obtain ⟨pre, post, rfl, hg, a, b⟩ := U.split
  have hm := N (sa, so) (List.mem_append_right _ (.head _))
  refine wpAny_call_entry PySem.F.slot_set_pop ⟨so, hm.1, hso.1.1⟩ PySem.F.entry_set_pop ?_ (PySem.F.args_set_pop_1 _)
  unfold Builtin.«set.pop» Builtin.Frozenset.noArgs
  refine wpAny_bind (m := Builtin.Frozenset.addrOf (.ref sa)) (wpAny_pure ?_)
  refine wpAny_bind (setPop_one hm.1 hso hS fun h' so' dr t hsb ho' hso' => ?_)
  exact wpAny_pure ⟨_, rfl, h h' so' dr t (F.change hsb hm.2.1 hm.2.2) (hg so' ▸ N.setIn a b hsb ho') hso'⟩
theorem getMethod_popN {pl : Sem Bool} {Q : Value × List Value → Shared → Prop} (N : News h₀ L s.heap news) (U : UpdF sa so news g) (hso : so.SetObjOf (PySem.intKind prog w) S n) (hb : n < scanBound) (h : Q (.builtin "set.pop", [.ref sa]) s) :
    wpAny (model prog w) A (getMethod (.ref sa) "pop" pl) Q E s :=
by
  obtain ⟨pre, post, rfl, _, _, _⟩ := U.split
  have hm := List.mem_append_right pre (List.Mem.head (a := (sa, so)) post)
  exact getMethod_builtin (hso.setOf (N _ hm).1 hb).typeIs PySem.F.plainAttrs_set PySem.F.slot_set_pop PySem.F.type_set_pop (hso.setOf (N _ hm).1 hb).noDict h
end
end Mine
end
section -- POW
open PySem PySem.Spec PySem.Calls PySem.W PyProof.Rows
namespace Mine
theorem clear_POW : True := by
  k_with_none
  w_top off
  exact True.intro

local macro_rules | `(tactic| walk_at "truthy ref") => `(tactic| k_extra "my truthy")
local macro_rules | `(tactic| walk_at "getMethod ref") => `(tactic| k_extra "my method")
local macro_rules | `(tactic| walk_at "call builtin:set.pop") => `(tactic| k_extra "my pop")
theorem powers_ok (w : World) {mean : ExcName → Option Value} {mg mb : Str → Option Value}
    {dp un : Nat} {gd : Option (List Code)} {cn : Str} {cs : Scope} {a : Addr} {ccd : Value} {cl : List (Str × Addr)} {outer : List Env} {A₀ : Around} {base h₀ : Heap} {L : Addr} {m : Str → Option Value} {s : Shared}
    {Q E : Value → Shared → Prop}
    (B : Below A₀ base outer h₀) (F : Fr h₀ L s.heap m) (X : (Mine.hd.heap_39 w.params).In h₀) (T : Top topProg Mine.loose39 mean mg mb h₀) (hk : cs.kind = .function) {n b d : Int} {t1 t2 t3 : Tok} 
    (hd : dp + 1 < recursionLimit) (hu : un + 8 < cLine) (hn : n ≤ d)
    (hret : ∀ q h' tk' dr, ExtB [] s.heap h' → s.heap.get? q = none → Q (.ref q) { s with heap := h', toks := tk', drawn := dr }) : wpAny (model (PySem.Challenge.rw_ul0012_01).prog w) (ktrTop dp un gd cn cs L a ccd cl outer) (call (.ref 22) [.int n t1, .int b t2, .int d t3]) Q E s := by
  revert X; k_fill; intro X
  (refine wpAny_call ?_); k_dflt (refine' enterPK (S := []) (binds := [(Str.ofString "w", .int n t1), (Str.ofString "base", .int b t2), (Str.ofString "more_than", .int d t3), (Str.ofString "show", .bool false)]) ?k1 ?k2 ?k3 ?k4 ?k5 ?kA ?kF ?kK ?k6 ?k7 ?k8 ?k9 ?kB ?_ ?c2 ?c3 ?c4 ?c5; (case kA => exact rfl); (case kF => exact rfl); (case kK => assumption); (case k1 => k_asm); (case k2 => k_asm); (case k3 => k_asm); (case k4 => first | exact News.nil | k_asm); (case k5 => k_asm); (case k6 => k_is); (case k7 => k_is); (case k8 => ktr_room); (case k9 => exact kp_binds (X.keeps F.keep) (fun _ => rfl)); (case c5 => decide); (case kB => exact locs rfl); (case c2 => exact rfl); (case c3 => exact rfl); (case c4 => exact rfl); k_whole; intro g' L' h' FG' GX F' N' B' X' T' l0; (try dsimp only); (try k_fold); (try (change (let A0 := _; wpAny _ A0 _ _ _ _); intro A0)))
  k_with "my truthy" => (k_dflt (refine' truthy_setN ?N ?U ?d ?z ?_; (case N => k_asm); (case U => k_updF); (case d => k_asm); (case z => decide)); (try dsimp only))
  k_with "my method" => ((with_reducible show wpAny _ _ (getMethod (Value.ref _) (Str.ofString "pop") _) _ _ _); k_dflt (refine' getMethod_popN ?N ?U ?d ?z ?_; (case N => k_asm); (case U => k_updF); (case d => k_asm); (case z => decide)))
  k_with "my pop" => (k_dflt (refine' set_popN (k := n) ?F ?N ?U ?d ?z ?_; (case F => k_asm); (case N => k_asm); (case U => k_updF); (case d => k_asm); (case z => (intro j hj; simpa using hj))); intro h' o' dr' t' F' N' hs'; (try dsimp only at N'))
  k_steps
  exact hret _ _ _ _ (ext_end GX (by assumption)) (new_end GX (by assumption) (.head _) (fun h => nomatch h)).1
end Mine
end
section -- S2I
open PySem PySem.Spec PySem.Calls PySem.W PyProof.Rows
namespace Mine
theorem clear_S2I : True := by
  k_with_none
  w_top off
  exact True.intro

local macro_rules | `(tactic| k_all) => `(tactic| assumption)
local macro_rules | `(tactic| walk_at "call ref") => `(tactic| k_extra "my call")
local macro_rules | `(tactic| walk_at "call type:int") => `(tactic| k_extra "my int")
theorem slice_whole (x : Str) : Txt.slice x (some 0) (some (x.length : Int)) = x := by
  have h : Txt.slice (tx x.cps.toList) (some 0) (some ((x.cps.toList.length : Nat) : Int)) = tx x.cps.toList := by
    rw [tx_slice ⟨by omega, by omega, by omega⟩]
    rw [show ((x.cps.toList.length : Nat) : Int) - 0 = ((x.cps.toList.length : Nat) : Int) by omega, Int.toNat_natCast, show (0 : Int).toNat = 0 from rfl, List.drop_zero, List.take_length]
  exact h
theorem two_args {P : List Value → Prop} {a b : Int} {t0 t1 : Tok} (h : ∀ t t', P [.int a t, .int b t']) : P [.int a t0, .int b t1] := h _ _
theorem s2i_ok (w : World) {mean : ExcName → Option Value} {mg mb : Str → Option Value}
    {dp un : Nat} {gd : Option (List Code)} {cn : Str} {cs : Scope} {a : Addr} {ccd : Value} {cl : List (Str × Addr)} {outer : List Env} {A₀ : Around} {base h₀ : Heap} {L : Addr} {m : Str → Option Value} {s : Shared}
    {Q E : Value → Shared → Prop}
    (B : Below A₀ base outer h₀) (F : Fr h₀ L s.heap m) (X : (Mine.hd.heap_39 w.params).In h₀) (T : Top topProg Mine.loose39 mean mg mb h₀) (hk : cs.kind = .function) (C27 : CodeHd base 28 24) {x : Str} {v : Int} (hv : PySem.intText? x = some v) (hxl : x.length ≤ 640) {t1 : Tok} {tb : List (Addr × Obj)}
    (hd : dp + 20 < recursionLimit) (hu : un + 100 < cLine) (N : News h₀ L s.heap tb) (hT : Tab 24 46 4 (Str.ofString "_str_to_int_inner.<locals>.inner") tb)
    (hret : ∀ h' tk' tb' u dr, ExtB (tb.map (·.1)) s.heap h' → News h₀ L h' tb' → (∀ p ∈ tb', p.1 ∈ tb.map (·.1) ∨ s.heap.get? p.1 = none) → (∀ p ∈ tb, p.1 ∈ tb'.map (·.1)) → Tab 24 46 4 (Str.ofString "_str_to_int_inner.<locals>.inner") tb' → Q (.int v u) { s with heap := h', toks := tk', drawn := dr }) : wpAny (model (PySem.Challenge.rw_ul0012_01).prog w) (ktrTop dp un gd cn cs L a ccd cl outer) (call (.ref 29) [.str x t1]) Q E s := by
  revert X; k_fill; intro X
  (refine wpAny_call ?_); k_dflt (refine' enterCK (S := tb) (binds := [(Str.ofString "s", .str x t1)]) ?k1 ?k2 ?k3 ?k4 ?k5 ?kA ?kF ?kK ?k6 ?k7 ?k8 ?k9 ?kB ?kD ?_ ?c2 ?c3 ?c4; (case kA => exact rfl); (case kF => exact rfl); (case kK => assumption); (case k1 => k_asm); (case k2 => k_asm); (case k3 => k_asm); (case k4 => first | exact News.nil | k_asm); (case k5 => k_asm); (case k6 => k_is); (case k7 => k_is); (case k8 => ktr_room); (case k9 => exact BindsTo.of_eq rfl); (case kB => exact rfl); (case kD => decide +kernel); (case c2 => exact rfl); (case c3 => exact rfl); (case c4 => exact rfl); k_whole; intro g' L' h' tk' cells' FG' GX F' N' Y' B' X' T' l0; obtain ⟨o1', o2', o3', o4', hE', e1', e2', e3', e4'⟩ := CellsAre.four Y'; subst hE'; clear Y'; (try simp only [List.cons_append, List.nil_append] at N'); (try dsimp only); (try k_fold))
  have l1 := low_lt X' F' (by rfl)
  have hA1 : ∀ p ∈ tb, p.1 ≠ L' + 1 := fun p hp => by refine neN ?_; have := ltN (l0 p hp); omega
  have hA2 : ∀ p ∈ tb, p.1 ≠ L' + 1 + 1 := fun p hp => by refine neN ?_; have := ltN (l0 p hp); omega
  have hA3 : ∀ p ∈ tb, p.1 ≠ L' + 1 + 1 + 1 := fun p hp => by refine neN ?_; have := ltN (l0 p hp); omega
  have hA4 : ∀ p ∈ tb, p.1 ≠ L' + 1 + 1 + 1 + 1 := fun p hp => by refine neN ?_; have := ltN (l0 p hp); omega
  k_steps
  k_dflt (refine' nestDef_K ?d0 ?k0 ?a0 ?_; (case d0 => exact rfl); (case k0 => exact rfl); (case a0 => exact rfl))
  rename_i h5 oA F5 N5 dA
  have hs0 : ∀ q ∈ [(L' + 1 + 1 + 1 + 1, o1'), (L' + 1 + 1 + 1, o2'), (L' + 1 + 1, oA), (L' + 1, o4')], ∀ p ∈ tb, q.1 ≠ p.1 := by
    intro q hq p hp
    have h1 := ltN (l0 p hp)
    simp only [List.mem_cons, List.not_mem_nil, or_false] at hq
    rcases hq with rfl | rfl | rfl | rfl <;> (refine neN ?_; omega)
  refine nestTab (qual := (Str.ofString "_str_to_int_inner.<locals>.inner")) (front := [(L' + 1 + 1 + 1 + 1, o1'), (L' + 1 + 1 + 1, o2'), (L' + 1 + 1, oA), (L' + 1, o4')]) F5 N5 T' (CodeHd.keeps C27 B'.stays) rfl hT hs0 ⟨_, .head _, by refine ltN ?_; dsimp only; omega⟩ rfl ?_
  intro f c' oc vs' t ctv doc h2 tk2 tb' F2 N2 hT2 d1 d2 hq l2 hs2 hsub
  simp only [List.cons_append, List.nil_append] at N2
  simp only [List.forall_mem_cons] at hq hs2
  obtain ⟨⟨qa1, qb1⟩, ⟨qa2, qb2⟩, ⟨qa3, qb3⟩, ⟨qa4, qb4⟩, -⟩ := hq
  obtain ⟨hB1, hB2, hB3, hB4, -⟩ := hs2
  replace qa1 := ltN qa1; replace qa2 := ltN qa2; replace qa3 := ltN qa3; replace qa4 := ltN qa4; replace qb1 := neN qb1; replace qb2 := neN qb2; replace qb3 := neN qb3; replace qb4 := neN qb4; have l2' := ltN l2
  have hC1 : ∀ p ∈ tb', p.1 ≠ L' + 1 + 1 + 1 + 1 := fun p hp => Ne.symm (hB1 p hp)
  have hC2 : ∀ p ∈ tb', p.1 ≠ L' + 1 + 1 + 1 := fun p hp => Ne.symm (hB2 p hp)
  walk1
  rename_i h3 oi F3 N3 d3
  have e4 : o4'.data = .cell (some (.str x t1)) := e4'
  dsimp only
  have hfit : ¬ (x.length : Int) ≥ 2 ^ 63 := by omega
  k_with "call builtin:len" => (refine P.len_str hfit ?_)
  k_with "my call" => (k_dflt (refine' powers_ok w ?b1 ?b2 ?b3 ?b4 ?b5 ?a5 ?a6 ?a7 ?_; (case b1 => k_asm); (case b2 => k_asm); (case b3 => k_asm); (case b4 => k_asm); (case b5 => exact rfl); (case a5 => exact (by omega : dp + 1 + 1 < recursionLimit)); (case a6 => exact (by omega : un + 3 + 8 < cLine)); (case a7 => omega)); intro q7 h7 tk7 dr7 E7 G7; (have F7 := E7.fr (by k_asm) (fun _ h => nomatch h)); (have N7 := E7.news (by k_asm) (fun _ _ h => nomatch h)); (try dsimp only); (try k_fold))
  k_steps
  rename_i hN7 hd7 hk7
  have hsl := slice_whole x
  k_with "my int" => (rw [hsl]; refine KIN.call_text hv hxl ?_)
  refine two_args (a := 0) (b := (x.length : Int)) (P := fun l => wpAny _ _ (call (.ref f) l) _ _ _) ?_
  intro ta tb9
  refine wpAny_call ?_
  k_dflt (refine' code_nest (binds := [(Str.ofString "a", .int 0 ta), (Str.ofString "b", .int (x.length : Int) tb9)]) ?k1 ?k2 ?k3 ?k4 ?k5 ?kA ?kF ?kK ?k6 ?k7 ?k8 ?k9 ?kB ?_ ?c2 ?c3 ?c4 ?c5; (case kA => exact rfl); (case kF => exact rfl); (case kK => exact rfl); (case k1 => k_asm); (case k2 => k_asm); (case k3 => k_asm); (case k4 => k_asm); (case k5 => k_asm); (case k6 => k_mem); (case k7 => exact codeRec_news (by k_asm) (by k_mem) (by assumption) (by assumption)); (case k8 => ktr_room); (case k9 => exact BindsTo.of_eq rfl); (case c5 => decide); (case kB => exact locs rfl); (case c2 => exact rfl); (case c3 => exact rfl); (case c4 => exact rfl); k_whole; intro g2 L2 h2' FG2 F2' N2' B2' X2' T2'; (try dsimp only); (try k_fold))
  k_steps
  rename News _ _ _ _ => kN
  have N9' := cb_drop hd7 (news := tb') fun p hp => .tail _ (.tail _ (.tail _ (.tail _ (.tail _ (.tail _ hp)))))
  exact hret _ _ tb' _ _ (ext_end GX (by assumption)) (cb_drop kN fun p hp => .tail _ (.tail _ (.tail _ (.tail _ (.tail _ (.tail _ hp)))))) (old_or_new GX N9') hsub hT2
end Mine
end
section -- IFS
open PySem PySem.Spec PySem.Calls PySem.W PyProof.Rows
namespace Mine
local macro_rules | `(tactic| walk_at "none") => `(tactic| fail "none")
theorem clear_IFS : True := by
  k_with_none
  w_top off
  exact True.intro

local macro_rules | `(tactic| k_all) => `(tactic| assumption)
local macro_rules | `(tactic| walk_at "call ref") => `(tactic| k_extra "my call")
local macro_rules | `(tactic| walk_at "call builtin:str.replace") => `(tactic| k_extra "my replace")
theorem ifs_ok (w : World) {mean : ExcName → Option Value} {mg mb : Str → Option Value}
    {dp un : Nat} {gd : Option (List Code)} {cn : Str} {cs : Scope} {a : Addr} {ccd : Value} {cl : List (Str × Addr)} {outer : List Env} {A₀ : Around} {base h₀ : Heap} {L : Addr} {m : Str → Option Value} {s : Shared}
    {Q E : Value → Shared → Prop}
    (B : Below A₀ base outer h₀) (F : Fr h₀ L s.heap m) (X : (Mine.hd.heap_39 w.params).In h₀) (T : Top topProg Mine.loose39 mean mg mb h₀) (hk : cs.kind = .function) (C27 : CodeHd base 28 24) {x : Str} {v : Int} (hv : PySem.intText? x = some v) (hdg : NumText.AllDigits x.cps.toList) (hxl : x.length ≤ 640) {t1 : Tok} {tb : List (Addr × Obj)}
    (hd : dp + 30 < recursionLimit) (hu : un + 120 < cLine) (N : News h₀ L s.heap tb) (hT : Tab 24 46 4 (Str.ofString "_str_to_int_inner.<locals>.inner") tb)
    (hret : ∀ h' tk' tb' u dr, ExtB (tb.map (·.1)) s.heap h' → News h₀ L h' tb' → (∀ p ∈ tb', p.1 ∈ tb.map (·.1) ∨ s.heap.get? p.1 = none) → (∀ p ∈ tb, p.1 ∈ tb'.map (·.1)) → Tab 24 46 4 (Str.ofString "_str_to_int_inner.<locals>.inner") tb' → Q (.int v u) { s with heap := h', toks := tk', drawn := dr }) : wpAny (model (PySem.Challenge.rw_ul0012_01).prog w) (ktrTop dp un gd cn cs L a ccd cl outer) (call (.ref 36) [.str x t1]) Q E s := by
  revert X; k_fill; intro X
  (refine wpAny_call ?_); k_dflt (refine' enterPK (S := tb) (binds := [(Str.ofString "s", .str x t1)]) ?k1 ?k2 ?k3 ?k4 ?k5 ?kA ?kF ?kK ?k6 ?k7 ?k8 ?k9 ?kB ?_ ?c2 ?c3 ?c4 ?c5; (case kA => exact rfl); (case kF => exact rfl); (case kK => assumption); (case k1 => k_asm); (case k2 => k_asm); (case k3 => k_asm); (case k4 => first | exact News.nil | k_asm); (case k5 => k_asm); (case k6 => k_is); (case k7 => k_is); (case k8 => ktr_room); (case k9 => exact BindsTo.of_eq rfl); (case c5 => decide); (case kB => exact locs rfl); (case c2 => exact rfl); (case c3 => exact rfl); (case c4 => exact rfl); k_whole; intro g' L' h' FG' GX F' N' B' X' T' l0; (try dsimp only); (try k_fold); (try (change (let A0 := _; wpAny _ A0 _ _ _ _); intro A0)))
  have hrs := rstrip_digits hdg
  have hoc : Builtin.Str.occurrences x (Str.ofString "_") 0 x.length (x.length + 1) = [] := by
    have e : Str.ofString "_" = ⟨#[95]⟩ := by decide +kernel
    rw [e]
    exact occ_none fun hm => by have := hdg _ hm; omega
  k_with "my replace" => (rw [hrs]; refine replace_none hoc ?_; (try dsimp only))
  k_with "my call" => (k_dflt (refine' s2i_ok w ?b1 ?b2 ?b3 ?b4 ?b5 ?c27 hv hxl ?a5 ?a6 ?b7 hT ?_; (case b1 => k_asm); (case b2 => k_asm); (case b3 => k_asm); (case b4 => k_asm); (case b5 => exact rfl); (case c27 => exact C27); (case b7 => k_asm); (case a5 => exact (by omega : dp + 1 + 20 < recursionLimit)); (case a6 => exact (by omega : un + 3 + 100 < cLine))); intro h9 tk9 tb9 u9 dr9 E9 N9 O9 B9 T9; (have F9 := ext_fr E9 (by k_asm) (by k_asm)); (try dsimp only); (try k_fold))
  k_steps
  rename News _ _ _ _ => kN
  exact hret _ _ tb9 _ _ (ext_end GX F9) kN (old_or_new GX N9) B9 T9
end Mine
end
section -- LEFT
open PySem PySem.Spec PySem.Calls PySem.W PyProof.Rows
namespace Mine
theorem clear_LEFT : True := by
  k_with_none
  w_top off
  exact True.intro

local macro_rules | `(tactic| k_all) => `(tactic| assumption)
local macro_rules | `(tactic| walk_at "call ref") => `(tactic| k_extra "my call")
local macro_rules | `(tactic| walk_at "binaryOp Add str str") => `(tactic| k_extra "my add")
local macro_rules | `(tactic| walk_at "pyIter ref") => `(tactic| fail "mine")
local macro_rules | `(tactic| walk_at "eval ListComp") => `(tactic| k_dflt (refine compEval (by k_asm) (by with_unfolding_all rfl) (by decide) (by rfl) (by decide) (by rfl) ?_))
theorem ifs_use (w : World) {mean : ExcName → Option Value} {mg mb : Str → Option Value}
    {dp un : Nat} {gd : Option (List Code)} {cn : Str} {cs : Scope} {a : Addr} {ccd : Value} {cl : List (Str × Addr)} {outer : List Env} {A₀ : Around} {base h₀ : Heap} {L : Addr} {m : Str → Option Value} {s : Shared}
    {Q E : Value → Shared → Prop}
    (B : Below A₀ base outer h₀) (F : Fr h₀ L s.heap m) (X : (Mine.hd.heap_39 w.params).In h₀) (T : Top topProg Mine.loose39 mean mg mb h₀) (hk : cs.kind = .function) (C27 : CodeHd base 28 24) {x : Str} {v : Int} (hv : PySem.intText? x = some v) (hdg : NumText.AllDigits x.cps.toList) (hxl : x.length ≤ 640) {t1 : Tok} {front tb : List (Addr × Obj)}
    (N : News h₀ L s.heap (front ++ tb)) (hT : Tabs tb) (hs : Sep front tb) (hd : dp + 30 < recursionLimit) (hu : un + 120 < cLine)
    (hret : ∀ h' tk' tb' u dr, Fr h₀ L h' m → News h₀ L h' (front ++ tb') → Tabs tb' → Sep front tb' → ExtB (tb.map (·.1)) s.heap h' → (∀ p ∈ tb, p.1 ∈ tb'.map (·.1)) → (∀ p ∈ tb', p.1 ∈ tb.map (·.1) ∨ s.heap.get? p.1 = none) → Q (.int v u) { s with heap := h', toks := tk', drawn := dr }) : wpAny (model (PySem.Challenge.rw_ul0012_01).prog w) (ktrTop dp un gd cn cs L a ccd cl outer) (call (.ref 36) [.str x t1]) Q E s := by
  obtain ⟨t27, t55, t62, T3⟩ := hT
  have e := T3.eq
  subst e
  have Nt := sub_right N
  have N55 : News h₀ L s.heap t55 := sub_left (sub_right Nt)
  have N27 : News h₀ L s.heap t27 := sub_left Nt
  have N62 : News h₀ L s.heap t62 := sub_right (sub_right Nt)
  have Nf : News h₀ L s.heap front := sub_left N
  have hf27 : ∀ q ∈ front, ∀ p ∈ t27, q.1 ≠ p.1 := fun q hq p hp => hs q hq p (List.mem_append_left _ hp)
  refine ifs_ok w B F X T hk C27 hv hdg hxl hd hu N27 T3.a fun h' tk' t' u dr e N' hfr hsb hT' => ?_
  have Nf' := news_renew (new := t') e Nf hf27
  have N55' := news_renew (new := t') e N55 fun q hq p hp => Ne.symm (T3.ab p hp q hq)
  have N62' := news_renew (new := t') e N62 fun q hq p hp => Ne.symm (T3.ac p hp q hq)
  refine hret h' tk' (t' ++ (t55 ++ t62)) u dr (ext_fr e F N27) (news_app Nf' (news_app N' (news_app N55' N62'))) ⟨t', t55, t62, rfl, hT', T3.b, T3.c, fun p hp q hq => Ne.symm (apart_new N55 (fun q hq p hp => Ne.symm (T3.ab p hp q hq)) hfr q hq p hp), fun p hp q hq => Ne.symm (apart_new N62 (fun q hq p hp => Ne.symm (T3.ac p hp q hq)) hfr q hq p hp), T3.bc⟩ ?_ ?_ ?_ ?_
  · intro q hq p hp
    rcases List.mem_append.mp hp with hp | hp
    · exact apart_new Nf hf27 hfr q hq p hp
    · exact hs q hq p (List.mem_append_right _ hp)
  · intro b o hb hn
    exact e b o hb fun hm => hn (by rw [List.map_append]; exact List.mem_append_left _ hm)
  · intro p hp
    rw [List.map_append]
    rcases List.mem_append.mp hp with hp | hp
    · exact List.mem_append_left _ (hsb p hp)
    · exact List.mem_append_right _ (List.mem_map_of_mem hp)
  · intro p hp
    rw [List.map_append]
    rcases List.mem_append.mp hp with hp | hp
    · rcases hfr p hp with h | h
      · exact .inl (List.mem_append_left _ h)
      · exact .inr h
    · exact .inl (List.mem_append_right _ (List.mem_map_of_mem hp))
noncomputable def closeL (l : List Nat) : List Nat := l ++ List.replicate (l.count 34 % 2) 34
theorem mulQ_tx (l : List Nat) : Txt.mul (Str.ofString "\"") ((Txt.count (tx l) (Str.ofString "\"")).fmod 2) = tx (List.replicate (l.count 34 % 2) 34) := by
  have e : Str.ofString "\"" = tx [34] := by decide +kernel
  have e2 : ((l.count 34 : Nat) : Int).fmod 2 = ((l.count 34 % 2 : Nat) : Int) := by
    rw [Int.fmod_eq_emod_of_nonneg _ (by decide)]; omega
  rw [count_quote, e2, e, tx_mul1]
theorem closeL_even (l : List Nat) : (closeL l).count 34 % 2 = 0 := by
  unfold closeL
  rw [List.count_append, List.count_replicate_self]; omega
theorem closeL_mem {l : List Nat} {c : Nat} (h : c ∈ closeL l) : c ∈ l ∨ c = 34 := by
  unfold closeL at h
  rcases List.mem_append.mp h with h | h
  · exact .inl h
  · exact .inr (List.eq_of_mem_replicate h)
theorem closeL_len (l : List Nat) : (closeL l).length ≤ l.length + 1 := by
  unfold closeL
  rw [List.length_append, List.length_replicate]; omega
theorem unq_len : ∀ (b : Bool) (l : List Nat), (unq b l).length ≤ l.length
  | _, [] => by cases ‹Bool› <;> exact Nat.le_refl _
  | false, c :: r => by
    rw [unq]
    have h1 := unq_len false r
    have h2 := unq_len true r
    split <;> simp <;> omega
  | true, c :: r => by
    rw [unq]
    have h1 := unq_len false r
    have h2 := unq_len true r
    split <;> simp <;> omega
theorem num_digits {n : Int} (h0 : 0 ≤ n) : NumText.AllDigits (Str.ofString (toString n)).cps.toList := by
  obtain ⟨m, rfl⟩ : ∃ m : Nat, n = (m : Int) := ⟨n.toNat, by omega⟩
  rw [KIN.signs_num]
  intro c hc
  obtain ⟨d, hd, rfl⟩ := List.mem_map.mp hc
  have := Nat.isDigit_of_mem_toDigits (by decide) (by decide) hd
  simp only [Char.isDigit, Bool.and_eq_true, decide_eq_true_eq] at this
  have h1 : (48 : Nat) ≤ d.val.toNat := this.1
  have h2 : d.val.toNat ≤ (57 : Nat) := this.2
  exact ⟨h1, h2⟩
theorem left_ok (w : World) {mean : ExcName → Option Value} {mg mb : Str → Option Value}
    {dp un : Nat} {gd : Option (List Code)} {cn : Str} {cs : Scope} {a : Addr} {ccd : Value} {cl : List (Str × Addr)} {outer : List Env} {A₀ : Around} {base h₀ : Heap} {L : Addr} {m : Str → Option Value} {s : Shared}
    {Q E : Value → Shared → Prop}
    (B : Below A₀ base outer h₀) (F : Fr h₀ L s.heap m) (X : (Mine.hd.heap_39 w.params).In h₀) (T : Top topProg Mine.loose39 mean mg mb h₀) (hk : cs.kind = .function) (C27 : CodeHd base 28 24) {l : List Nat} {ns : List Int} {t1 : Tok} {tb : List (Addr × Obj)} (N : News h₀ L s.heap tb) (hT : Tabs tb)
    (hd : dp + 50 < recursionLimit) (hu : un + 200 < cLine) (hlen : l.length ≤ 900) (hdg : ∀ c ∈ l, c = 32 ∨ c = 34 ∨ (48 ≤ c ∧ c ≤ 57))
    (hnsz : ns.length ≤ sizeLine) (hns : ∀ n ∈ ns, 0 ≤ n ∧ n < 10 ^ 10) (hw : Txt.words (tx (unq false (closeL l))) = ns.map (fun n => Str.ofString (toString n)))
    (hret : ∀ q h' tk' tb' g' dr ys, ExtB (tb.map (·.1)) s.heap h' → s.heap.get? q = none → News h₀ L h' ((q, LCg.lst ys) :: tb') → IntsAre ys ns → Tabs tb' → (∀ p ∈ tb', p.1 ∈ tb.map (·.1) ∨ s.heap.get? p.1 = none) → (∀ p ∈ tb, p.1 ∈ tb'.map (·.1)) → (∀ p ∈ tb', p.1 ≠ q) →
      ((∀ y ∈ s.gens, y.bare = true) → ∀ y ∈ g', y.bare = true) → Q (.ref q) { s with heap := h', gens := g', toks := tk', drawn := dr }) : wpAny (model (PySem.Challenge.rw_ul0012_01).prog w) (ktrTop dp un gd cn cs L a ccd cl outer) (call (.ref 136) [.str (tx l) t1]) Q E s := by
  revert X; k_fill; intro X
  (refine wpAny_call ?_); k_dflt (refine' enterPK (S := tb) (binds := [(Str.ofString "line", .str (tx l) t1)]) ?k1 ?k2 ?k3 ?k4 ?k5 ?kA ?kF ?kK ?k6 ?k7 ?k8 ?k9 ?kB ?_ ?c2 ?c3 ?c4 ?c5; (case kA => exact rfl); (case kF => exact rfl); (case kK => assumption); (case k1 => k_asm); (case k2 => k_asm); (case k3 => k_asm); (case k4 => first | exact News.nil | k_asm); (case k5 => k_asm); (case k6 => k_is); (case k7 => k_is); (case k8 => ktr_room); (case k9 => exact BindsTo.of_eq rfl); (case c5 => decide); (case kB => exact locs rfl); (case c2 => exact rfl); (case c3 => exact rfl); (case c4 => exact rfl); k_whole; intro g' L' h' FG' GX F' N' B' X' T' l0; (try dsimp only); (try k_fold); (try (change (let A0 := _; wpAny _ A0 _ _ _ _); intro A0)))
  have hsz : (tx l).length ≤ 900 := by rw [tx_len]; exact hlen
  have hcl := mulQ_tx l
  k_with "my add" => (refine add_txS rfl hcl (by rw [List.length_replicate]; omega) ?_; intro t8 k8)
  k_with "my call" => (k_dflt (refine' strip_ok (l := closeL l) w ?b1 ?b2 ?b3 ?b4 ?b5 ?a5 ?a6 ?a1 ?a2 ?a3 ?_; (case b1 => k_asm); (case b2 => k_asm); (case b3 => k_asm); (case b4 => k_asm); (case b5 => exact rfl); (case a5 => exact (by omega : dp + 1 + 30 < recursionLimit)); (case a6 => exact (by omega : un + 3 + 120 < cLine)); (case a1 => (have := closeL_len l; omega)); (case a2 => (intro c hc; rcases closeL_mem hc with h | h <;> first | exact hdg c h | omega)); (case a3 => exact closeL_even l)); intro h9 tk9 u9 g9 E9 B9; (have F9 := E9.fr (by k_asm) (fun _ h => nomatch h)); (have N9 := E9.news (by k_asm) (fun _ _ h => nomatch h)); (try dsimp only); (try k_fold))
  k_steps
  have hul : (tx (unq false (closeL l))).length + 2 ≤ sizeLine := by
    rw [tx_len, PySem.sizeLine_eq]; have := closeL_len l; have := unq_len false (closeL l); omega
  refine KSpl.split0 F9 N9 (fun W ws h8 k8 hws hSt F8 N8 lW => ?_) hul
  rw [hw] at hws
  dsimp only
  refine pyIter_listN F8 N8 (PySem.IsL.isList (n := 0) (N8 _ (.head _)).1) fun I h7 F7 N7 lI => ?_
  simp only [AllLt] at lI
  have hWI : W ≠ I := Nat.ne_of_lt lI.1
  have hIt := ktn_ltOf lI.2
  have hWt : ∀ p ∈ tb, p.1 ≠ W := fun p hp => Nat.ne_of_lt (lW p hp)
  have hnl : (strValues ws).length = ns.length := by rw [StrsAre.length hSt, hws, List.length_map]
  refine ⟨I, [I, W], _, _, _, [(W, PySem.W.listOf (strValues ws).toArray 0)], _, (W, _) :: tb, fun i ys nw => ∃ tb', nw = (W, PySem.W.listOf (strValues ws).toArray 0) :: tb' ∧ Tabs tb' ∧ IntsAre ys (ns.take i) ∧ (∀ p ∈ tb', p.1 ≠ W) ∧ (∀ p ∈ tb, p.1 ∈ tb'.map (·.1)), rfl, ⟨Walks.list rfl I W hWI (strValues ws).toArray, ?_, fun i h x => ?_, fun b hb => ?_, ?_, F7, N7, ?_, ?_, ?_, ?_, ?_, ?_⟩, ?_⟩
  · rw [List.size_toArray, hnl]; exact hnsz
  · obtain ⟨o, e, _⟩ := x.1; exact ⟨o, e⟩
  · rcases List.mem_cons.mp hb with rfl | hb
    · exact .inl rfl
    · rw [List.mem_singleton.mp hb]; exact .inr ⟨_, .head _⟩
  · rintro i ys nw ⟨tb', rfl, _⟩ p hp
    rw [List.mem_singleton.mp hp]; exact .inl (.head _)
  · intro p hp
    rcases List.mem_cons.mp hp with rfl | hp
    · exact hWI
    · exact Nat.ne_of_lt (hIt p hp)
  · exact ⟨⟨_, (N7 _ (.head _)).1, rfl, rfl⟩, PySem.IsL.isList (n := 0) (N7 _ (.tail _ (.head _))).1⟩
  · intro b hb
    rcases List.mem_cons.mp hb with rfl | hb
    · exact Heap.lt_size (N7 _ (.head _)).1
    · rw [List.mem_singleton.mp hb]; exact Heap.lt_size (N7 _ (.tail _ (.head _))).1
  · exact ⟨tb, rfl, hT, .nil, hWt, fun p hp => List.mem_map_of_mem hp⟩
  · rintro i ys nw ⟨tb', rfl, _, h, _⟩
    rw [h.length, List.length_take]; omega
  · rintro i v oI C oC D ys nw m₂ h tk dr E' hi hP ⟨tb', rfl, hT', hys, hW', hsb⟩ hoC hm2 F₃ N₃ ap
    have hP' : (strValues ws)[i]? = some v := by simpa using hP
    obtain ⟨y, ty, rfl, hy⟩ := hSt.item i v hP'
    rw [hws, List.getElem?_map] at hy
    obtain ⟨n, hn, rfl⟩ := Option.map_eq_some_iff.mp hy
    obtain ⟨hn0, hn1⟩ := hns n (List.mem_of_getElem? hn)
    refine wpAny_tests_nil ?_
    rw [if_pos rfl]
    have hsep : Sep [(I, oI), (C, oC), (D, LCg.lst ys), (W, PySem.W.listOf (strValues ws).toArray 0)] tb' := by
      intro q hq p hp
      have h3 := ap.off p (.tail _ hp)
      simp only [List.mem_cons, List.not_mem_nil, or_false] at hq
      rcases hq with rfl | rfl | rfl | rfl
      · exact Ne.symm h3.1
      · exact Ne.symm h3.2.1
      · exact Ne.symm h3.2.2
      · exact Ne.symm (hW' p hp)
    have N₄ : News g' L' h ([(I, oI), (C, oC), (D, LCg.lst ys), (W, PySem.W.listOf (strValues ws).toArray 0)] ++ tb') := N₃
    k_with "my call" => (k_dflt (refine' ifs_use w (front := [(I, oI), (C, oC), (D, LCg.lst ys), (W, PySem.W.listOf (strValues ws).toArray 0)]) ?b1 ?b2 ?b3 ?b4 ?b5 C27 (KIN.num_reads hn0 hn1) (num_digits hn0) ?a1 N₄ hT' hsep ?a5 ?a6 ?_; (case b1 => k_asm); (case b2 => k_asm); (case b3 => k_asm); (case b4 => k_asm); (case b5 => exact rfl); (case a1 => exact Nat.le_trans (KT.len_num hn0 hn1) (by decide)); (case a5 => exact (by omega : dp + 1 + 30 < recursionLimit)); (case a6 => exact (by omega : un + 3 + 120 < cLine))); intro h6 tk6 tb6 u6 dr6 F6 N6 T6 S6 X6 B6 O6; (try dsimp only); (try k_fold))
    k_steps
    refine ⟨h6, tk6, dr6, (W, PySem.W.listOf (strValues ws).toArray 0) :: tb6, rfl, F6, N6, ⟨fun p hp => ?_, ap.ic, ap.id, ap.cd⟩, tb6, rfl, T6, ?_, fun p hp => Ne.symm (S6 (W, PySem.W.listOf (strValues ws).toArray 0) (.tail _ (.tail _ (.tail _ (.head _)))) p hp), fun p hp => ?_⟩
    · rcases List.mem_cons.mp hp with rfl | hp
      · exact ap.off _ (.head _)
      · exact ⟨Ne.symm (S6 (I, oI) (.head _) p hp), Ne.symm (S6 (C, oC) (.tail _ (.head _)) p hp), Ne.symm (S6 (D, LCg.lst ys) (.tail _ (.tail _ (.head _))) p hp)⟩
    · rw [List.take_add_one, hn]
      exact ints_app hys (ints_one n u6)
    · obtain ⟨q, hq, hqe⟩ := mapMem (hsb p hp)
      rw [← hqe]; exact B6 q hq
  · rintro D h tk dr ys nw ⟨tb', rfl, hT', hys, hW', hsb⟩ F8' N8' hD
    have hall : ns.take (strValues ws).toArray.size = ns := by rw [List.size_toArray, hnl, List.take_length]
    rw [hall] at hys
    clear N7 F7
    have hDtb : D ∉ tb.map (·.1) := fun hm => by
      obtain ⟨p, hp, e⟩ := List.mem_map.mp hm
      obtain ⟨q, hq, e'⟩ := mapMem (hsb p hp)
      exact hD q (.tail _ hq) (e'.trans e)
    have e9 := new_end GX N8' (.head _) hDtb
    k_steps
    rename News _ _ _ _ => kN
    have Nt8 : News g' L' h tb' := cb_drop N8' fun p hp => .tail _ (.tail _ hp)
    have kN' : News h₀ L h ((D, LCg.lst ys) :: (W, PySem.W.listOf (strValues ws).toArray 0) :: tb') := kN
    exact hret D h _ tb' g9 dr ys (ext_end GX F8') e9.1 (cb_drop kN' fun p hp => by
      rcases List.mem_cons.mp hp with rfl | hp
      · exact .head _
      · exact .tail _ (.tail _ hp)) hys hT' (old_or_new GX Nt8) hsb (fun p hp => hD p (.tail _ hp)) B9
end Mine
end
section -- Lp
namespace Mine
/-- the row's numbers -/
noncomputable def numsI (st : Int) (ds : List Int) : List Int := ds.foldl (fun ns d => ns ++ ns.map (fun n => n + d)) [st]
theorem numsI_snoc (st : Int) (ds : List Int) (d : Int) : numsI st (ds ++ [d]) = numsI st ds ++ (numsI st ds).map (fun n => n + d) := by
  unfold numsI; rw [List.foldl_append]; rfl
theorem numsI_take {st : Int} {ds : List Int} {i : Nat} {d : Int} (h : ds[i]? = some d) : numsI st (ds.take (i + 1)) = numsI st (ds.take i) ++ (numsI st (ds.take i)).map (fun n => n + d) := by
  rw [List.take_add_one, h]; exact numsI_snoc _ _ _
theorem numsI_len (st : Int) (ds : List Int) : (numsI st ds).length = 2 ^ ds.length := by
  have : ∀ (ds ns : List Int), (ds.foldl (fun ns d => ns ++ ns.map (fun n => n + d)) ns).length = ns.length * 2 ^ ds.length := by
    intro ds
    induction ds with
    | nil => intro ns; simp
    | cons d r ih => intro ns; rw [List.foldl_cons, ih, List.length_append, List.length_map, List.length_cons, Nat.pow_succ]; rw [← Nat.two_mul, Nat.mul_assoc, Nat.mul_left_comm, Nat.mul_comm 2 (2 ^ r.length)]
  unfold numsI; rw [this]; simp
theorem numsI_len_le {st : Int} {ds : List Int} (h : ds.length ≤ 4) : (numsI st ds).length ≤ 16 := by
  rw [numsI_len]; exact Nat.pow_le_pow_right (by decide) h
end Mine
end
section -- Lq
open PySem PySem.Spec PySem.Calls PySem.W PyProof.Rows
namespace Mine
/-- the signs of a numeral -/
noncomputable def decN (n : Int) : List Nat := (Str.ofString (toString n)).cps.toList
theorem decN_tx (n : Int) : Str.ofString (toString n) = tx (decN n) := tx_cps _
theorem decN_len {n : Int} (h0 : 0 ≤ n) (h1 : n < 10 ^ 7) : (decN n).length ≤ 10 := by
  have := KT.len_num h0 (show n < 10 ^ 10 by omega)
  simpa [decN, Str.length] using this
theorem decN_dig {n : Int} (h0 : 0 ≤ n) : ∀ c ∈ decN n, 48 ≤ c ∧ c ≤ 57 := fun c hc => num_digits h0 c hc
theorem decN_ne (n : Int) (h0 : 0 ≤ n) : decN n ≠ [] := by
  obtain ⟨m, rfl⟩ : ∃ m : Nat, n = (m : Int) := ⟨n.toNat, by omega⟩
  unfold decN
  rw [KIN.signs_num]
  intro h
  have := congrArg List.length h
  rw [List.length_map, List.length_nil] at this
  exact absurd this (by have := Nat.length_toDigits_pos (b := 10) (n := m); omega)
/-- the line once the numbers up to place i are laid -/
noncomputable def lineI (nums : List Int) : Nat → List Nat
  | 0 => 32 :: decN (nums.getD 0 0)
  | i + 1 => lineI nums i ++ (if keptF 5 (i + 1) % 2 = 0 then [34] else []) ++ (32 :: decN (nums.getD (i + 1) 0))
theorem getD_mem {nums : List Int} {i : Nat} (h : i < nums.length) : nums.getD i 0 ∈ nums := by
  rw [List.getD_eq_getElem?_getD, List.getElem?_eq_getElem h]; exact List.getElem_mem h
theorem lineI_len {nums : List Int} (hn : ∀ n ∈ nums, 0 ≤ n ∧ n < 10 ^ 7) : ∀ i, i < nums.length → (lineI nums i).length ≤ 12 * (i + 1)
  | 0, h => by
    have := decN_len (hn _ (getD_mem h)).1 (hn _ (getD_mem h)).2
    simp only [lineI, List.length_cons]; omega
  | i + 1, h => by
    have h1 := lineI_len hn i (by omega)
    have := decN_len (hn _ (getD_mem h)).1 (hn _ (getD_mem h)).2
    simp only [lineI, List.length_append, List.length_cons]
    split <;> simp only [List.length_cons, List.length_nil] <;> omega
end Mine
end
section -- Ph9
open PySem PySem.Spec PySem.Calls PySem.W PyProof.Rows
namespace Mine
local macro_rules | `(tactic| walk_at "none") => `(tactic| fail "none")
theorem clear_Ph9 : True := by
  k_with_none
  w_top off
  exact True.intro

local macro_rules | `(tactic| k_all) => `(tactic| assumption)
local macro_rules | `(tactic| walk_at "call ref") => `(tactic| k_dflt (k_extra "my call"))
local macro_rules | `(tactic| walk_at "eval Name") => `(tactic| ((with_reducible show wpAny _ _ (eval (Expr.Name _ _) (compEnvC _ _ _ _)) _ _ _); k_dflt (refine' LCgL.ld_built ?q1 ?q2 ?q3 ?q4 ?q5 ?q6 ?_; (case q1 => k_asm); (case q2 => k_asm); (case q3 => k_asm); (case q4 => k_is); (case q5 => boot_by_name); (case q6 => decide))))
local macro_rules | `(tactic| walk_at "pyIter ref") => `(tactic| fail "mine")
local macro_rules | `(tactic| walk_at "eval ListComp") => `(tactic| k_dflt (refine compEval (by k_asm) (by with_unfolding_all rfl) (by decide) (by rfl) (by decide) (by rfl) ?_))
noncomputable def onesI (n : Nat) : List Int := (List.range n).map fun (i : Nat) => ((toD 1 (i : Int) (numD (i : Int) 1)).sum).fmod 2
theorem ph9 (w : World) {mean : ExcName → Option Value} {mg mb : Str → Option Value} {fa : Addr} {cd : Value} {h₀ : Heap} {L : Addr} {m : Str → Option Value} {s : Shared} {rest : List Stmt} {Q : Flow → Shared → Prop} {E : Value → Shared → Prop}
    (B : Below callerA h₀ [] h₀) (F : Fr h₀ L s.heap m) (X : (Mine.hd.heap_39 w.params).In h₀) (T : Top topProg Mine.loose39 mean mg mb h₀) (C28 : CodeHd h₀ 28 24) (C63 : CodeHd h₀ 63 59) (C56 : CodeHd h₀ 56 52) {nl D : Addr} {ys zs : List Value} {kD kz : Nat} {nums : List Int} {oN c4 c3 c2 c1 : Obj} {tb : List (Addr × Obj)} (hz : IntsAre zs nums) (h16 : nums.length ≤ 16) (dN : oN.data = .cell (some (.ref nl))) (hc3 : ∃ v, c3.data = .cell v) (hT : Tabs tb)
    (hcs : ∀ q ∈ ((L + 1, oN) :: (L + 1 + 1, c4) :: (L + 1 + 1 + 1, c3) :: (L + 1 + 1 + 1 + 1, c2) :: (L + 1 + 1 + 1 + 1 + 1, c1) :: []), isFields q.2.data = false)
    (N : News h₀ L s.heap ((nl, W.listOf zs.toArray kz) :: (D, W.listOf ys.toArray kD) :: (L + 1, oN) :: (L + 1 + 1, c4) :: (L + 1 + 1 + 1, c3) :: (L + 1 + 1 + 1 + 1, c2) :: (L + 1 + 1 + 1 + 1 + 1, c1) :: tb))
    (next : ∀ s' ol ws oO tb', Same s s' → Fr h₀ L s'.heap m → oO.data = .cell (some (.ref ol)) → IntsAre ws (onesI nums.length) → Tabs tb' →
      News h₀ L s'.heap ((ol, LCg.lst ws) :: (nl, W.listOf zs.toArray kz) :: (D, W.listOf ys.toArray kD) :: (L + 1, oN) :: (L + 1 + 1, c4) :: (L + 1 + 1 + 1, oO) :: (L + 1 + 1 + 1 + 1, c2) :: (L + 1 + 1 + 1 + 1 + 1, c1) :: tb') → wpAny (model (PySem.Challenge.rw_ul0012_01).prog w) (callerA.deeper (envOfC (Str.ofString "law") lawSc L fa cd)) (execs rest (envOfC (Str.ofString "law") lawSc L fa cd)) Q E s') : wpAny (model (PySem.Challenge.rw_ul0012_01).prog w) (callerA.deeper (envOfC (Str.ofString "law") lawSc L fa cd)) (execs (lawAt 9 :: rest) (envOfC (Str.ofString "law") lawSc L fa cd)) Q E s := by
  conv in lawAt 9 => whnf
  conv in (occs := *) lawSc => all_goals whnf
  revert X; k_fill; intro X
  have hzl := hz.length
  k_steps
  rename_i h6 tk6 t6 u6 v6 R6 F7 N7 _
  have hsz : Builtin.Range.rangeSize 0 (nums.length : Int) 1 = ((nums.length : Nat) : Int) := by rw [rangeSize_one]; split <;> omega
  have hsm : Builtin.Range.small 0 (nums.length : Int) 1 = true := small_one (by decide) (by decide) (by omega) (by omega)
  refine pyIter_rangeN F7 N7 R6 hsm fun I h8 F8 N8 lI => ?_
  rw [hsz] at N8
  have hIt := fun p hp => Nat.ne_of_lt (ktn_ltOf lI p hp)
  clear lI
  obtain ⟨FR, hFR⟩ : ∃ FR, FR = (nl, W.listOf zs.toArray kz) :: (D, W.listOf ys.toArray kD) :: (L + 1, oN) :: (L + 1 + 1, c4) :: (L + 1 + 1 + 1, c3) :: (L + 1 + 1 + 1 + 1, c2) :: (L + 1 + 1 + 1 + 1 + 1, c1) :: [] := ⟨_, rfl⟩
  have hFt : ∀ tb', (nl, W.listOf zs.toArray kz) :: (D, W.listOf ys.toArray kD) :: (L + 1, oN) :: (L + 1 + 1, c4) :: (L + 1 + 1 + 1, c3) :: (L + 1 + 1 + 1 + 1, c2) :: (L + 1 + 1 + 1 + 1 + 1, c1) :: tb' = FR ++ tb' := fun tb' => by rw [hFR]; rfl
  have hnf : ∀ q ∈ FR, isFields q.2.data = false := by
    intro q hq
    rw [hFR] at hq
    rcases List.mem_cons.mp hq with rfl | hq
    · rfl
    rcases List.mem_cons.mp hq with rfl | hq
    · rfl
    exact hcs q hq
  rw [hFt] at N8 hIt
  refine ⟨I, _, _, _, _, _, _, _, fun i ys nw => ∃ tb', nw = FR ++ tb' ∧ Tabs tb' ∧ Sep FR tb' ∧ IntsAre ys ((onesI nums.length).take i), rfl, CompOK.range (n := nums.length) rfl rfl ?_ F8 N8 hIt ⟨tb, rfl, hT, sep_of (fun p hp => N8 p (.tail _ hp)) hT hnf, .nil⟩ ?_ ?_, ?_⟩
  · rw [PySem.sizeLine_eq]; omega
  · rintro i ys nw ⟨tb', rfl, _, _, h⟩
    rw [h.length, List.length_take]; omega
  · rintro i t oI C oC D2 ys2 nw m₂ h tk dr E' hi ⟨tb', rfl, hT', hS', hys⟩ hoC hm2 F₃ N₃ ap
    rw [show (0 : Int) + (i : Nat) = ((i : Nat) : Int) by omega] at hm2
    refine wpAny_tests_nil ?_
    rw [if_pos rfl]
    have hb : (Builtin.Int.intBits ((i : Nat) : Int) : Int) ≤ 64 * 1 := by
      have : Builtin.Int.intBits ((i : Nat) : Int) ≤ 64 := (intBits_le_iff (m := 64)).mpr (by omega)
      omega
    k_with "my call" => (refine' int2digits_use w (front := (I, oI) :: (C, oC) :: (D2, LCg.lst ys2) :: FR) ?b1 ?b2 ?b3 ?b4 ?b5 C56 N₃ hT' (sep_comp ap hS') ?a5 ?a6 ?a2 ?a3 ?a4 hb ?_; (case b1 => k_asm); (case b2 => k_asm); (case b3 => k_asm); (case b4 => k_asm); (case b5 => exact rfl); (case a5 => decide); (case a6 => decide); (case a2 => omega); (case a3 => decide); (case a4 => decide); intro q9 h9 tk9 tb9 ys9 F9 N9 T9 S9 A9 D9 I9 X9 sb9; (try dsimp only [List.cons_append] at N9); (try dsimp only); (try k_fold))
    k_steps
    rename Fr _ _ _ _ => kF; rename News _ _ _ _ => kN
    refine ⟨_, _, _, FR ++ tb9, rfl, kF, fun p hp => kN p (.tail _ hp), capart_of ap S9, tb9, rfl, T9, sep_tail (sep_tail (sep_tail S9)), ?_⟩
    have hg : (onesI nums.length)[i]? = some (((toD 1 (i : Int) (numD (i : Int) 1)).sum).fmod 2) := by
      unfold onesI; rw [List.getElem?_map, List.getElem?_range hi]; rfl
    rw [List.take_add_one, hg]
    exact ints_app hys (ints_one _ _)
  · rintro D2 h tk dr ys2 nw ⟨tb', rfl, hT', hS', hys⟩ F' N' hap
    have hall : (onesI nums.length).take nums.length = onesI nums.length := by
      rw [List.take_of_length_le]; unfold onesI; rw [List.length_map, List.length_range]; exact Nat.le_refl _
    rw [hall] at hys
    rw [← hFt] at N' hap
    obtain ⟨vc3, hc3⟩ := hc3
    have htt : ∀ p ∈ tb', p ∈ (D2, LCg.lst ys2) :: (nl, W.listOf zs.toArray kz) :: (D, W.listOf ys.toArray kD) :: (L + 1, oN) :: (L + 1 + 1, c4) :: (L + 1 + 1 + 1, c3) :: (L + 1 + 1 + 1 + 1, c2) :: (L + 1 + 1 + 1 + 1 + 1, c1) :: tb' := fun p hp => .tail _ (.tail _ (.tail _ (.tail _ (.tail _ (.tail _ (.tail _ (.tail _ hp)))))))
    have a1 := ne_lc N' (.tail _ (.head _)) (.tail _ (.tail _ (.tail _ (.tail _ (.tail _ (.head _)))))) hc3
    have a2 := ne_lc N' (.tail _ (.tail _ (.head _))) (.tail _ (.tail _ (.tail _ (.tail _ (.tail _ (.head _)))))) hc3
    have a3 := ne_lc N' (.head _) (.tail _ (.tail _ (.tail _ (.tail _ (.tail _ (.head _)))))) hc3
    have b1 := tabs_cell N' hT' htt (.tail _ (.tail _ (.tail _ (.tail _ (.tail _ (.head _)))))) hc3
    clear htt
    k_steps
    rename_i h9 o9 F9 N9 d9
    exact next _ D2 ys2 o9 tb' ⟨rfl, fun h => h⟩ F9 d9 hys hT' N9
end Mine
end
section -- Pln
open PySem PySem.Spec PySem.Calls PySem.W PyProof.Rows
namespace Mine
/-- the numbers of one side -/
noncomputable def nsI (st : Int) (ds : List Int) (i : Int) : List Int := selI (numsI st ds) (onesI (numsI st ds).length) i (numsI st ds).length
/-- the digits that the two sides make -/
noncomputable def digI (st : Int) (ds : List Int) : List Int := digF st 1 (digF st 0 (List.replicate (1 + ds.sum).toNat 0) (nsI st ds 0)) (nsI st ds 1)
noncomputable def wrtI (st wd : Int) (ds : List Int) (i : Nat) : Int := worthF (evalD wd.toNat (digI st ds)) (2 ^ wd.toNat - 1) i
/-- what the law needs of its numbers -/
structure Plain (st wd : Int) (ds : List Int) : Prop where
  st0 : 0 ≤ st
  st1 : st < 10 ^ 6
  wd0 : 1 ≤ wd
  wd1 : wd ≤ 64
  len : ds.length ≤ 4
  dist : ∀ d ∈ ds, 1 ≤ d ∧ d ≤ 5
  n0 : (numsI st ds).getD 0 0 = st
  nb : ∀ n ∈ numsI st ds, 0 ≤ n ∧ n < 10 ^ 7
  hw0 : Txt.words (tx (unq false (closeL (lineI (numsI st ds) ((numsI st ds).length - 1))))) = (nsI st ds 0).map (fun n => Str.ofString (toString n))
  hw1 : Txt.words (tx (unq false (closeL (34 :: lineI (numsI st ds) ((numsI st ds).length - 1))))) = (nsI st ds 1).map (fun n => Str.ofString (toString n))
  b0 : ∀ n ∈ nsI st ds 0, 0 ≤ n - st ∧ n - st < (1 + ds.sum).toNat
  b1 : ∀ n ∈ nsI st ds 1, 0 ≤ n - st ∧ n - st < (1 + ds.sum).toNat
  sum0 : 0 ≤ ds.sum
  sum1 : ds.sum ≤ 20
  dig : ∀ d ∈ digI st ds, d.natAbs < 2 ^ 100
  bpos : (0 : Int) < 2 ^ wd.toNat - 1
  bbit : Builtin.Int.intBits (2 ^ wd.toNat - 1) ≤ 64
  bits : ∀ i, i ≤ ds.length → Builtin.Int.intBits (wrtI st wd ds i) ≤ 64 * Builtin.Int.intBits (2 ^ wd.toNat - 1)
  rest : ∀ i, i < ds.length → wrtI st wd ds i % (2 ^ wd.toNat - 1) = 0
  prod : ∀ i, i ≤ ds.length → (prodF (ds.take i)).natAbs ≤ 100000
  ways : ∀ i, i ≤ ds.length → 1 ≤ (waysF (ds.take i)).length ∧ (waysF (ds.take i)).length ≤ 40
  last : wrtI st wd ds ds.length % (2 ^ wd.toNat - 1) = (signF ds.length * prodF ds) % (2 ^ wd.toNat - 1)
  sgn : signF ds.length = 1 ∨ signF ds.length = -1
  pos : 0 ≤ signF ds.length * wrtI st wd ds ds.length
  bit1 : (Builtin.Int.intBits (signF ds.length * wrtI st wd ds ds.length) : Int) ≤ 64 * wd
  bit2 : (Builtin.Int.intBits (wrtI st wd ds ds.length) : Int) ≤ 64 * wd
  ans : toD wd.toNat (signF ds.length * wrtI st wd ds ds.length) (numD (signF ds.length * wrtI st wd ds ds.length) wd) = waysF ds
theorem selI_mem {nums os : List Int} {i : Int} {k : Nat} {n : Int} (hk : k ≤ nums.length) (h : n ∈ selI nums os i k) : n ∈ nums := by
  unfold selI at h
  obtain ⟨p, hp, rfl⟩ := List.mem_map.mp h
  have := List.mem_range.mp (List.mem_filter.mp hp).1
  exact getD_mem (by omega)
theorem lineI_sig {nums : List Int} (hn : ∀ n ∈ nums, 0 ≤ n) : ∀ i, i < nums.length → ∀ c ∈ lineI nums i, c = 32 ∨ c = 34 ∨ (48 ≤ c ∧ c ≤ 57)
  | 0, h, c, hc => by
    rcases List.mem_cons.mp hc with rfl | hc
    · exact .inl rfl
    · exact .inr (.inr (decN_dig (hn _ (getD_mem h)) c hc))
  | i + 1, h, c, hc => by
    rw [lineI] at hc
    rcases List.mem_append.mp hc with hc | hc
    · rcases List.mem_append.mp hc with hc | hc
      · exact lineI_sig hn i (by omega) c hc
      · split at hc
        · rw [List.mem_singleton.mp hc]; exact .inr (.inl rfl)
        · cases hc
    · rcases List.mem_cons.mp hc with rfl | hc
      · exact .inl rfl
      · exact .inr (.inr (decN_dig (hn _ (getD_mem h)) c hc))
end Mine
end
section -- Ph0a
open PySem PySem.Spec PySem.Calls PySem.W PyProof.Rows
namespace Mine
theorem clear_Ph0a : True := by
  k_with_none
  w_top off
  exact True.intro

local macro_rules | `(tactic| k_all) => `(tactic| assumption)
local macro_rules | `(tactic| walk_at "subscriptTail BinOp Subscript Add List Slice ref ref") => `(tactic| walk_at "last subscriptTail")
theorem ph0a (w : World) {mean : ExcName → Option Value} {mg mb : Str → Option Value} {fa : Addr} {cd : Value} {h₀ : Heap} {L : Addr} {m : Str → Option Value} {s : Shared} {rest : List Stmt} {Q : Flow → Shared → Prop} {E : Value → Shared → Prop}
    (B : Below callerA h₀ [] h₀) (F : Fr h₀ L s.heap m) (X : (Mine.hd.heap_39 w.params).In h₀) (T : Top topProg Mine.loose39 mean mg mb h₀) (C28 : CodeHd h₀ 28 24) (C63 : CodeHd h₀ 63 59) (C56 : CodeHd h₀ 56 52) {sl : Addr} {vs : List Value} {scr : List Int} {S : List (Addr × Obj)} (e1 : m (Str.ofString "script") = some (.ref sl)) (hl : h₀.IsList sl vs.toArray) (hv : IntsAre vs scr) (hlen : scr.length ≤ 63)
    (N : News h₀ L s.heap S)
    (next : ∀ s' m' C ys t1, Same s s' → Fr h₀ L s'.heap m' → Agree [(Str.ofString "cells"), (Str.ofString "count")] m' m → m' (Str.ofString "cells") = some (.ref C) → m' (Str.ofString "count") = some (.int (2 + (scr.sum + 1).fmod 3) t1) → IntsAre ys (cellsI scr) → (∀ p ∈ S, p.1 ≠ C) →
      News h₀ L s'.heap ((C, W.listOf ys.toArray 0) :: S) → wpAny (model (PySem.Challenge.rw_ul0012_01).prog w) (callerA.deeper (envOfC (Str.ofString "law") lawSc L fa cd)) (execs rest (envOfC (Str.ofString "law") lawSc L fa cd)) Q E s') : wpAny (model (PySem.Challenge.rw_ul0012_01).prog w) (callerA.deeper (envOfC (Str.ofString "law") lawSc L fa cd)) (execs (lawAt 0 :: lawAt 1 :: rest) (envOfC (Str.ofString "law") lawSc L fa cd)) Q E s := by
  conv in lawAt 0 => whnf
  conv in lawAt 1 => whnf
  conv in (occs := *) lawSc => all_goals whnf
  revert X; k_fill; intro X
  have F0 := fr_put (Str.ofString "script") F e1
  clear F
  k_steps
  rename_i C ys _ hI _ _ lC _ _ _ _ _ F7 N7
  exact next _ _ C ys _ ⟨rfl, fun h => h⟩ F7 (.put (.put (.same .refl e1) (.head _)) (.tail _ (.head _))) rfl rfl hI (fun p hp => Nat.ne_of_lt (ktn_ltOf lC.2.2.2 p hp)) fun p hp => by
    rcases List.mem_cons.mp hp with rfl | hp
    · exact N7 _ (.head _)
    · exact N7 p (.tail _ (.tail _ (.tail _ (.tail _ hp))))
end Mine
end
section -- Ph0b
open PySem PySem.Spec PySem.Calls PySem.W PyProof.Rows
namespace Mine
theorem clear_Ph0b : True := by
  k_with_none
  w_top off
  exact True.intro

local macro_rules | `(tactic| walk_at "exec Assign cons ListComp") => `(tactic| k_dflt (refine compAssign (by k_asm) (by with_unfolding_all rfl) (by with_unfolding_all rfl) (by decide) (by rfl) (by decide) (by rfl) ?_))
theorem introI {P : Prop} {ws : List Value} {X : List Int} (h : IntsAre ws X) (k : ∀ cs, cs = X → IntsAre ws cs → P) : P := k X rfl h
local macro_rules | `(tactic| k_all) => `(tactic| assumption)
local macro_rules | `(tactic| walk_at "pyIter ref") => `(tactic| fail "mine")
theorem ph0b (w : World) {mean : ExcName → Option Value} {mg mb : Str → Option Value} {fa : Addr} {cd : Value} {h₀ : Heap} {L : Addr} {m : Str → Option Value} {s : Shared} {rest : List Stmt} {Q : Flow → Shared → Prop} {E : Value → Shared → Prop}
    (B : Below callerA h₀ [] h₀) (F : Fr h₀ L s.heap m) (X : (Mine.hd.heap_39 w.params).In h₀) (T : Top topProg Mine.loose39 mean mg mb h₀) (C28 : CodeHd h₀ 28 24) (C63 : CodeHd h₀ 63 59) (C56 : CodeHd h₀ 56 52) {C0 : Addr} {vs : List Value} {cells : List Int} {cnt : Int} {tc : Tok} {S : List (Addr × Obj)} (e1 : m (Str.ofString "cells") = some (.ref C0)) (e2 : m (Str.ofString "count") = some (.int cnt tc)) (hv : IntsAre vs cells) (hlen : cells.length = 6) (hc : 0 ≤ cnt)
    (N : News h₀ L s.heap ((C0, W.listOf vs.toArray 0) :: S))
    (next : ∀ s' m' D ys, Same s s' → Fr h₀ L s'.heap m' → Agree [(Str.ofString "distances")] m' m → m' (Str.ofString "distances") = some (.ref D) → IntsAre ys ((cells.take cnt.toNat).map fun x => 1 + x.fmod 5) → (∀ p ∈ (C0, W.listOf vs.toArray 0) :: S, p.1 ≠ D) →
      News h₀ L s'.heap ((D, W.listOf ys.toArray ys.length) :: (C0, W.listOf vs.toArray 0) :: S) → wpAny (model (PySem.Challenge.rw_ul0012_01).prog w) (callerA.deeper (envOfC (Str.ofString "law") lawSc L fa cd)) (execs rest (envOfC (Str.ofString "law") lawSc L fa cd)) Q E s') : wpAny (model (PySem.Challenge.rw_ul0012_01).prog w) (callerA.deeper (envOfC (Str.ofString "law") lawSc L fa cd)) (execs (lawAt 2 :: rest) (envOfC (Str.ofString "law") lawSc L fa cd)) Q E s := by
  conv in lawAt 2 => whnf
  conv in (occs := *) lawSc => all_goals whnf
  revert X; k_fill; intro X
  have F0 := fr_put (Str.ofString "count") (fr_put (Str.ofString "cells") F e1) e2
  clear F
  have hvl := hv.length
  k_steps
  rename_i D9 ws9 h9 F9 N9 hI9 hC9 hL9 l9
  clear hL9
  refine introI hI9 ?_
  intro cs hcs hI9
  have hcs4 : cs.length ≤ 6 := by rw [hcs, List.length_take]; omega
  have hwl : ws9.length = cs.length := hI9.length
  refine introS N9 ?_
  intro SS hSS NS
  have hmem : (D9, W.listOf ws9.toArray 0) ∈ SS := by rw [hSS]; exact .head _
  clear N9
  refine pyIter_listN F9 NS (PySem.IsL.isList (n := 0) (NS _ hmem).1) fun I h7 F7 N7 lI => ?_
  have hIs : ∀ p ∈ SS, p.1 ≠ I := fun p hp => Nat.ne_of_lt (ktn_ltOf lI p hp)
  refine ⟨I, _, _, _, _, _, _, _, fun i ys nw => nw = SS ∧ IntsAre ys ((cs.take i).map (fun x => 1 + x.fmod 5)), rfl, CompOK.list (l := D9) (vs := ws9) (ol := W.listOf ws9.toArray 0) rfl (hIs _ hmem) ⟨rfl, _, rfl⟩ ?_ ?_ F7 N7 hIs ⟨rfl, .nil⟩ ?_ ?_, ?_⟩
  · rw [hwl, PySem.sizeLine_eq]; omega
  · rintro i ys nw ⟨rfl, _⟩; exact .inl hmem
  · rintro i ys nw ⟨_, h⟩; rw [h.length, List.length_map, List.length_take]; omega
  · rintro i v oI C oC D ys nw m₂ h tk dr E' hi hv ⟨rfl, hys⟩ hoC hm2 F₃ N₃ ap
    obtain ⟨n, hn⟩ : ∃ n, cs[i]? = some n := ⟨_, List.getElem?_eq_getElem (by omega)⟩
    obtain ⟨tn, htn⟩ := hI9.get i n hn
    rw [htn] at hv
    obtain rfl := Option.some.inj hv
    refine wpAny_tests_nil ?_
    rw [if_pos rfl]
    k_steps
    rename Fr _ _ _ _ => kF; rename News _ _ _ _ => kN
    refine ⟨_, _, _, nw, rfl, kF, kN, ap, rfl, ?_⟩
    rw [List.take_add_one, hn, List.map_append]
    exact ints_app hys (ints_one _ _)
  · rintro D C oC h tk dr m' ys nw ⟨rfl, hys⟩ F' N' hap hoC hCD
    have hall : cs.take ws9.length = cs := by rw [hwl, List.take_length]
    rw [hall] at hys
    k_steps
    rename Fr _ _ _ _ => kF; rename News _ _ _ _ => kN
    refine ⟨_, (D, LCg.lst ys) :: nw, kF, kN, fun p hp => ?_, fun h'' F8 N8 => ?_⟩
    · rcases List.mem_cons.mp hp with rfl | hp
      · exact Ne.symm hCD
      · exact (hap p hp).2
    rw [hSS] at N8 hap
    rw [hcs] at hys
    exact next _ _ D ys ⟨rfl, fun h => h⟩ F8 (.put (.same (.same .refl e1) e2) (.head _)) rfl hys (fun p hp => (hap p (.tail _ hp)).1) fun p hp => by
      rcases List.mem_cons.mp hp with rfl | hp
      · exact N8 _ (.head _)
      · exact N8 p (.tail _ (.tail _ hp))
end Mine
end
section -- Ph0c
open PySem PySem.Spec PySem.Calls PySem.W PyProof.Rows
namespace Mine
theorem clear_Ph0c : True := by
  k_with_none
  w_top off
  exact True.intro

local macro_rules | `(tactic| k_all) => `(tactic| assumption)
theorem ph0c (w : World) {mean : ExcName → Option Value} {mg mb : Str → Option Value} {fa : Addr} {cd : Value} {h₀ : Heap} {L : Addr} {m : Str → Option Value} {s : Shared} {rest : List Stmt} {Q : Flow → Shared → Prop} {E : Value → Shared → Prop}
    (B : Below callerA h₀ [] h₀) (F : Fr h₀ L s.heap m) (X : (Mine.hd.heap_39 w.params).In h₀) (T : Top topProg Mine.loose39 mean mg mb h₀) (C28 : CodeHd h₀ 28 24) (C63 : CodeHd h₀ 63 59) (C56 : CodeHd h₀ 56 52) {C0 : Addr} {vs : List Value} {cells : List Int} {c5 : Obj} {S : List (Addr × Obj)} (e1 : m (Str.ofString "cells") = some (.ref C0)) (hv : IntsAre vs cells) (hlen : cells.length = 6) (hc5 : c5.data = .cell none) (hS : ∀ p ∈ S, p.1 ≠ L + 1) (hC0 : @Ne Nat C0 (L + 1))
    (N : News h₀ L s.heap ((C0, W.listOf vs.toArray 0) :: (L + 1, c5) :: S))
    (next : ∀ s' m' nl zs oN t1 t2, Same s s' → Fr h₀ L s'.heap m' → Agree [(Str.ofString "start"), (Str.ofString "width")] m' m → m' (Str.ofString "start") = some (.int ((cells.getD 4 0).fmod (10 ^ 6)) t1) → m' (Str.ofString "width") = some (.int (8 + (cells.getD 5 0).fmod 40) t2) → oN.data = .cell (some (.ref nl)) → IntsAre zs [(cells.getD 4 0).fmod (10 ^ 6)] →
      News h₀ L s'.heap ((nl, W.listOf zs.toArray 0) :: (L + 1, oN) :: S) → wpAny (model (PySem.Challenge.rw_ul0012_01).prog w) (callerA.deeper (envOfC (Str.ofString "law") lawSc L fa cd)) (execs rest (envOfC (Str.ofString "law") lawSc L fa cd)) Q E s') : wpAny (model (PySem.Challenge.rw_ul0012_01).prog w) (callerA.deeper (envOfC (Str.ofString "law") lawSc L fa cd)) (execs (lawAt 3 :: lawAt 4 :: lawAt 5 :: rest) (envOfC (Str.ofString "law") lawSc L fa cd)) Q E s := by
  conv in lawAt 3 => whnf
  conv in lawAt 4 => whnf
  conv in lawAt 5 => whnf
  conv in (occs := *) lawSc => all_goals whnf
  revert X; k_fill; intro X
  have F0 := fr_put (Str.ofString "cells") F e1
  clear F
  have hvl := hv.length
  k_steps
  rename_i nl _ _ h6 o6 F6 N6 d6
  exact next _ _ nl [.int ((cells.getD 4 0).fmod (10 ^ 6)) _] o6 _ _ ⟨rfl, fun h => h⟩ F6 (.put (.put (.same .refl e1) (.head _)) (.tail _ (.head _))) rfl rfl d6 (ints_one _ _) (sub_pk [0, 2] 3 N6)
end Mine
end
section -- Ph0
open PySem PySem.Spec PySem.Calls PySem.W PyProof.Rows
namespace Mine

theorem ph0 (w : World) {mean : ExcName → Option Value} {mg mb : Str → Option Value} {fa : Addr} {cd : Value} {h₀ : Heap} {L : Addr} {m : Str → Option Value} {s : Shared} {rest : List Stmt} {Q : Flow → Shared → Prop} {E : Value → Shared → Prop}
    (B : Below callerA h₀ [] h₀) (F : Fr h₀ L s.heap m) (X : (Mine.hd.heap_39 w.params).In h₀) (T : Top topProg Mine.loose39 mean mg mb h₀) (C28 : CodeHd h₀ 28 24) (C63 : CodeHd h₀ 63 59) (C56 : CodeHd h₀ 56 52) {sl : Addr} {vs : List Value} {scr : List Int} {c1 c2 c3 c4 c5 : Obj} {tb : List (Addr × Obj)} (e1 : m (Str.ofString "script") = some (.ref sl)) (hl : h₀.IsList sl vs.toArray) (hv : IntsAre vs scr) (hlen : scr.length ≤ 63)
    (hc1 : c1.data = .cell none) (hc2 : c2.data = .cell none) (hc3 : c3.data = .cell none) (hc4 : c4.data = .cell none) (hc5 : c5.data = .cell none) (hT : Tabs tb)
    (N : News h₀ L s.heap ((L + 1 + 1 + 1 + 1 + 1, c1) :: (L + 1 + 1 + 1 + 1, c2) :: (L + 1 + 1 + 1, c3) :: (L + 1 + 1, c4) :: (L + 1, c5) :: tb))
    (next : ∀ s' m' D ys nl zs oN t1 t2, Same s s' → Fr h₀ L s'.heap m' → m' (Str.ofString "distances") = some (.ref D) → m' (Str.ofString "start") = some (.int (stI scr) t1) → m' (Str.ofString "width") = some (.int (wdI scr) t2) → oN.data = .cell (some (.ref nl)) → IntsAre ys (dsI scr) → IntsAre zs [stI scr] →
      News h₀ L s'.heap ((nl, W.listOf zs.toArray 0) :: (D, W.listOf ys.toArray ys.length) :: (L + 1, oN) :: (L + 1 + 1, c4) :: (L + 1 + 1 + 1, c3) :: (L + 1 + 1 + 1 + 1, c2) :: (L + 1 + 1 + 1 + 1 + 1, c1) :: tb) → wpAny (model (PySem.Challenge.rw_ul0012_01).prog w) (callerA.deeper (envOfC (Str.ofString "law") lawSc L fa cd)) (execs rest (envOfC (Str.ofString "law") lawSc L fa cd)) Q E s') : wpAny (model (PySem.Challenge.rw_ul0012_01).prog w) (callerA.deeper (envOfC (Str.ofString "law") lawSc L fa cd)) (execs (lawAt 0 :: lawAt 1 :: lawAt 2 :: lawAt 3 :: lawAt 4 :: lawAt 5 :: rest) (envOfC (Str.ofString "law") lawSc L fa cd)) Q E s := by
  refine ph0a w B F X T C28 C63 C56 e1 hl hv hlen N ?_
  intro s1 m1 C ys1 t1 S1 F1 A1 a1 a2 I1 hC N1
  refine ph0b w B F1 X T C28 C63 C56 a1 a2 I1 (cellsI_len scr) (by rw [Int.fmod_eq_emod_of_nonneg _ (by decide)]; omega) N1 ?_
  intro s2 m2 D ys2 S2 F2 A2 b1 I2 hD N2
  have hDc := hD _ (.tail _ (.tail _ (.tail _ (.tail _ (.tail _ (.head _))))))
  refine ph0c w B F2 X T C28 C63 C56 (S := (D, W.listOf ys2.toArray ys2.length) :: (L + 1 + 1, c4) :: (L + 1 + 1 + 1, c3) :: (L + 1 + 1 + 1 + 1, c2) :: (L + 1 + 1 + 1 + 1 + 1, c1) :: tb) (A2.get _ a1 (by decide)) I1 (cellsI_len scr) hc5 ?_ (Ne.symm (hC _ (.tail _ (.tail _ (.tail _ (.tail _ (.head _))))))) (sub_pk [1, 6, 0, 5, 4, 3, 2] 7 N2) ?_
  · have ht : ∀ p ∈ tb, p.1 ≠ L + 1 := tabs_cell N2 hT (fun p hp => .tail _ (.tail _ (.tail _ (.tail _ (.tail _ (.tail _ (.tail _ hp))))))) (.tail _ (.tail _ (.tail _ (.tail _ (.tail _ (.tail _ (.head _))))))) hc5
    exact List.forall_mem_cons.mpr ⟨Ne.symm hDc, List.forall_mem_cons.mpr ⟨neN (by omega), List.forall_mem_cons.mpr ⟨neN (by omega), List.forall_mem_cons.mpr ⟨neN (by omega), List.forall_mem_cons.mpr ⟨neN (by omega), ht⟩⟩⟩⟩⟩
  intro s3 m3 nl zs oN t2 t3 S3 F3 A3 d1 d2 dN I3 N3
  exact next s3 m3 D ys2 nl zs oN t2 t3 (S1.trans (S2.trans S3)) F3 (A3.get _ b1 (by decide)) d1 d2 dN I2 I3 (sub_pk [0, 2, 1, 3, 4, 5, 6] 7 N3)
end Mine
end
section -- Ph6
open PySem PySem.Spec PySem.Calls PySem.W PyProof.Rows
namespace Mine
theorem clear_Ph6 : True := by
  k_with_none
  w_top off
  exact True.intro

local macro_rules | `(tactic| k_all) => `(tactic| assumption)
local macro_rules | `(tactic| walk_at "pyIter ref") => `(tactic| fail "mine")
local macro_rules | `(tactic| walk_at "exec For Name Name cons nil") => `(tactic| k_dflt (refine wpAny_For ?_))
local macro_rules | `(tactic| walk_at "eval ListComp") => `(tactic| k_dflt (refine compEval (by k_asm) (by with_unfolding_all rfl) (by decide) (by rfl) (by decide) (by rfl) ?_))
theorem ph6 (w : World) {mean : ExcName → Option Value} {mg mb : Str → Option Value} {fa : Addr} {cd : Value} {h₀ : Heap} {L : Addr} {m : Str → Option Value} {s : Shared} {rest : List Stmt} {Q : Flow → Shared → Prop} {E : Value → Shared → Prop}
    (B : Below callerA h₀ [] h₀) (F : Fr h₀ L s.heap m) (X : (Mine.hd.heap_39 w.params).In h₀) (T : Top topProg Mine.loose39 mean mg mb h₀) (C28 : CodeHd h₀ 28 24) (C63 : CodeHd h₀ 63 59) (C56 : CodeHd h₀ 56 52) {D nl : Addr} {ys zs : List Value} {kD kz : Nat} {ds : List Int} {st : Int} {c1 c2 c3 c4 oN : Obj} {tb : List (Addr × Obj)} (e1 : m (Str.ofString "distances") = some (.ref D)) (hy : IntsAre ys ds) (hd : ds.length ≤ 4) (hc4 : ∃ v, c4.data = .cell v) (dN : oN.data = .cell (some (.ref nl))) (hz : IntsAre zs [st]) (hT : Tabs tb)
    (N : News h₀ L s.heap ((nl, W.listOf zs.toArray kz) :: (D, W.listOf ys.toArray kD) :: (L + 1, oN) :: (L + 1 + 1, c4) :: (L + 1 + 1 + 1, c3) :: (L + 1 + 1 + 1 + 1, c2) :: (L + 1 + 1 + 1 + 1 + 1, c1) :: tb))
    (next : ∀ s' nl' zs' kz' c4' oN', Same s s' → Fr h₀ L s'.heap m → (∃ v, c4'.data = .cell v) → oN'.data = .cell (some (.ref nl')) → IntsAre zs' (numsI st ds) →
      News h₀ L s'.heap ((nl', W.listOf zs'.toArray kz') :: (D, W.listOf ys.toArray kD) :: (L + 1, oN') :: (L + 1 + 1, c4') :: (L + 1 + 1 + 1, c3) :: (L + 1 + 1 + 1 + 1, c2) :: (L + 1 + 1 + 1 + 1 + 1, c1) :: tb) → wpAny (model (PySem.Challenge.rw_ul0012_01).prog w) (callerA.deeper (envOfC (Str.ofString "law") lawSc L fa cd)) (execs rest (envOfC (Str.ofString "law") lawSc L fa cd)) Q E s') : wpAny (model (PySem.Challenge.rw_ul0012_01).prog w) (callerA.deeper (envOfC (Str.ofString "law") lawSc L fa cd)) (execs (lawAt 6 :: rest) (envOfC (Str.ofString "law") lawSc L fa cd)) Q E s := by
  conv in lawAt 6 => whnf
  conv in (occs := *) lawSc => all_goals whnf
  revert X; k_fill; intro X
  have F0 := fr_put (Str.ofString "distances") F e1
  clear F
  k_steps
  have hD : (D, W.listOf ys.toArray kD) ∈ ((nl, W.listOf zs.toArray kz) :: (D, W.listOf ys.toArray kD) :: (L + 1, oN) :: (L + 1 + 1, c4) :: (L + 1 + 1 + 1, c3) :: (L + 1 + 1 + 1 + 1, c2) :: (L + 1 + 1 + 1 + 1 + 1, c1) :: tb) := .tail _ (.head _)
  refine pyIter_listN F0 N (PySem.IsL.isList (n := kD) (N _ hD).1) fun I h7 F7 N7 lI => ?_
  have hIt : ∀ p ∈ tb, p.1 ≠ I := fun p hp => Nat.ne_of_lt (ktn_ltOf lI p (.tail _ (.tail _ (.tail _ (.tail _ (.tail _ (.tail _ (.tail _ hp))))))))
  simp only [AllLt] at lI
  have lI1 := ltN lI.1
  have lI2 := ltN lI.2.1
  have lI3 := ltN lI.2.2.1
  have lI4 := ltN lI.2.2.2.1
  have lI5 := ltN lI.2.2.2.2.1
  have lI6 := ltN lI.2.2.2.2.2.1
  have lI7 := ltN lI.2.2.2.2.2.2.1
  clear lI
  have hDI : D ≠ I := Nat.ne_of_lt lI2
  have hyl := hy.length
  generalize hm0 : (fun y => if y = (Str.ofString "distances") then some (Value.ref D) else m y) = m0 at *
  refine forListS (l := D) (vs := ys) (ol := W.listOf ys.toArray kD) rfl hDI (fun i m₁ nw => m₁ = m0 ∧ ∃ q vs k on od, nw = (q, W.listOf vs.toArray k) :: (D, W.listOf ys.toArray kD) :: (L + 1, on) :: (L + 1 + 1, od) :: (L + 1 + 1 + 1, c3) :: (L + 1 + 1 + 1 + 1, c2) :: (L + 1 + 1 + 1 + 1 + 1, c1) :: tb ∧ on.data = .cell (some (.ref q)) ∧ (∃ v, od.data = .cell v) ∧ IntsAre vs (numsI st (ds.take i))) ⟨rfl, _, rfl⟩ ?_ F7 N7 ?_ ⟨rfl, nl, zs, kz, oN, c4, rfl, dN, hc4, hz⟩ ?_ ?_
  · rintro i m₁ nw ⟨_, q, vs, k, on, od, rfl, _⟩; exact .inl (.tail _ (.head _))
  · simp only [List.forall_mem_cons]
    exact ⟨Nat.ne_of_lt lI1, Nat.ne_of_lt lI2, Nat.ne_of_lt lI3, Nat.ne_of_lt lI4, Nat.ne_of_lt lI5, Nat.ne_of_lt lI6, Nat.ne_of_lt lI7, hIt⟩
  · rintro i v m₁ nw s₁ o hi hv ⟨rfl, q, vs, k, on, od, rfl, hon, ⟨vd, hod⟩, hvs⟩ hI hsm F₁ N₁
    simp only [List.forall_mem_cons] at hI
    obtain ⟨q1, q2, q3, q4, q5, q6, q7, q8⟩ := hI
    replace q1 := neN q1; replace q2 := neN q2; replace q3 := neN q3; replace q4 := neN q4
    obtain ⟨n, hn⟩ : ∃ n, ds[i]? = some n := ⟨_, List.getElem?_eq_getElem (by omega)⟩
    obtain ⟨tn, htn⟩ := hy.get i n hn
    rw [htn] at hv
    obtain rfl := Option.some.inj hv
    have Nn : News h₀ L s₁.heap ((q, W.listOf vs.toArray k) :: (D, W.listOf ys.toArray kD) :: (L + 1, on) :: (L + 1 + 1, od) :: (L + 1 + 1 + 1, c3) :: (L + 1 + 1 + 1 + 1, c2) :: (L + 1 + 1 + 1 + 1 + 1, c1) :: tb) := fun p hp => N₁ p (.tail _ hp)
    have a1 := ne_lc Nn (.head _) (.tail _ (.tail _ (.head _))) hon
    have a2 := ne_lc Nn (.head _) (.tail _ (.tail _ (.tail _ (.head _)))) hod
    have a3 := ne_lc Nn (.tail _ (.head _)) (.tail _ (.tail _ (.head _))) hon
    have a4 := ne_lc Nn (.tail _ (.head _)) (.tail _ (.tail _ (.tail _ (.head _)))) hod
    have htt : ∀ p ∈ tb, p ∈ ((q, W.listOf vs.toArray k) :: (D, W.listOf ys.toArray kD) :: (L + 1, on) :: (L + 1 + 1, od) :: (L + 1 + 1 + 1, c3) :: (L + 1 + 1 + 1 + 1, c2) :: (L + 1 + 1 + 1 + 1 + 1, c1) :: tb) := fun p hp => (.tail _ (.tail _ (.tail _ (.tail _ (.tail _ (.tail _ (.tail _ hp)))))))
    have b1 := tabs_cell Nn hT htt (.tail _ (.tail _ (.head _))) hon
    have b2 := tabs_cell Nn hT htt (.tail _ (.tail _ (.tail _ (.head _)))) hod
    clear Nn N7 F7 N F0 htt
    k_steps
    rename_i h9 o9 F9 N9 d9
    have hlen := numsI_len_le (st := st) (ds := ds.take i) (by rw [List.length_take]; omega)
    have hvl := hvs.length
    refine introS N9 ?_
    intro SS hSS NS
    have hmem : (q, W.listOf vs.toArray k) ∈ SS := by rw [hSS]; exact .tail _ (.head _)
    clear N9
    refine pyIter_listN F9 NS (PySem.IsL.isList (n := k) (NS _ hmem).1) fun I2 h8 F8 N8 lI2 => ?_
    have hIs : ∀ p ∈ SS, p.1 ≠ I2 := fun p hp => Nat.ne_of_lt (ktn_ltOf lI2 p hp)
    refine ⟨I2, _, _, _, _, _, _, _, fun j ys nw => nw = SS ∧ IntsAre ys (((numsI st (ds.take i)).take j).map (fun x => x + n)), rfl, CompOK.list (l := q) (vs := vs) (ol := W.listOf vs.toArray k) rfl (hIs _ hmem) ⟨rfl, _, rfl⟩ ?_ ?_ F8 N8 hIs ⟨rfl, .nil⟩ ?_ ?_, ?_⟩
    · rw [hvl, PySem.sizeLine_eq]; omega
    · rintro j ys nw ⟨rfl, _⟩; exact .inl hmem
    · rintro j ys nw ⟨_, h⟩; rw [h.length, List.length_map, List.length_take]; omega
    · rintro j v oI C oC D2 ys2 nw m₂ h tk dr E' hj hv ⟨rfl, hys⟩ hoC hm2 F₃ N₃ ap
      obtain ⟨x, hx⟩ : ∃ x, (numsI st (ds.take i))[j]? = some x := ⟨_, List.getElem?_eq_getElem (by omega)⟩
      obtain ⟨tx, htx⟩ := hvs.get j x hx
      rw [htx] at hv
      obtain rfl := Option.some.inj hv
      refine wpAny_tests_nil ?_
      rw [if_pos rfl]
      rw [hSS] at N₃
      k_steps
      rename Fr _ _ _ _ => kF; rename News _ _ _ _ => kN
      rw [← hSS] at kN
      refine ⟨_, _, _, nw, rfl, kF, kN, ap, rfl, ?_⟩
      rw [List.take_add_one, hx, List.map_append]
      exact ints_app hys (ints_one _ _)
    · rintro D2 h tk dr ys2 nw ⟨rfl, hys⟩ F' N' hap
      have hall : (numsI st (ds.take i)).take vs.length = numsI st (ds.take i) := by rw [hvl, List.take_length]
      rw [hall] at hys
      clear F8 N8 NS F9 hIs hmem
      rw [hSS] at N' hap
      simp only [List.forall_mem_cons] at hap
      obtain ⟨p1, p2, p3, p4, p5, p6, p7, p8, p9⟩ := hap
      replace p1 := neN p1; replace p2 := neN p2; replace p3 := neN p3; replace p4 := neN p4; replace p5 := neN p5
      k_steps
      rename_i D3 ws3 hA hI3 lD3 hB o3 F3 N3 d3
      refine TurnS.intro ⟨hsm.1, hsm.2⟩ F3 (news₂ := (D3, W.listOf ws3.toArray 0) :: (D, W.listOf ys.toArray kD) :: (L + 1, o3) :: (L + 1 + 1, o9) :: (L + 1 + 1 + 1, c3) :: (L + 1 + 1 + 1 + 1, c2) :: (L + 1 + 1 + 1 + 1 + 1, c1) :: tb) (fun p hp => N3 p ?_) ?_ ⟨rfl, D3, ws3, 0, o3, o9, rfl, d3, ⟨_, d9⟩, ?_⟩
      · rcases List.mem_cons.mp hp with rfl | hp
        · exact .tail _ (.tail _ (.head _))
        · rcases List.mem_cons.mp hp with rfl | hp
          · exact .head _
          · exact .tail _ (.tail _ (.tail _ (.tail _ hp)))
      · simp only [List.forall_mem_cons]
        exact ⟨Nat.ne_of_gt lD3.2.1, q2, q3, q4, q5, q6, q7, q8⟩
      · rw [numsI_take hn]; exact hI3
  · rintro m₁ nw s₁ ⟨rfl, q, vs, k, on, od, rfl, hon, hod, hvs⟩ hsm F₁ N₁
    rw [hyl, List.take_length] at hvs
    have e0 : m₁ = m := by
      rw [← hm0]; funext y; by_cases h : y = (Str.ofString "distances")
      · rw [if_pos h, h, e1]
      · rw [if_neg h]
    rw [e0] at F₁
    exact next s₁ q vs k od on hsm F₁ hod hon hvs N₁
end Mine
end
section -- Ph7
open PySem PySem.Spec PySem.Calls PySem.W PyProof.Rows
namespace Mine
theorem clear_Ph7 : True := by
  k_with_none
  w_top off
  exact True.intro

local macro_rules | `(tactic| walk_at "binaryOp Add str str") => `(tactic| k_extra "my add")
theorem ph7 (w : World) {mean : ExcName → Option Value} {mg mb : Str → Option Value} {fa : Addr} {cd : Value} {h₀ : Heap} {L : Addr} {m : Str → Option Value} {s : Shared} {rest : List Stmt} {Q : Flow → Shared → Prop} {E : Value → Shared → Prop}
    (B : Below callerA h₀ [] h₀) (F : Fr h₀ L s.heap m) (X : (Mine.hd.heap_39 w.params).In h₀) (T : Top topProg Mine.loose39 mean mg mb h₀) (C28 : CodeHd h₀ 28 24) (C63 : CodeHd h₀ 63 59) (C56 : CodeHd h₀ 56 52) {st : Int} {t : Tok} {S : List (Addr × Obj)} (e1 : m (Str.ofString "start") = some (.int st t)) (h0 : 0 ≤ st) (h1 : st < 10 ^ 6) (N : News h₀ L s.heap S)
    (next : ∀ s' m' t', Same s s' → Fr h₀ L s'.heap m' → Agree [(Str.ofString "line")] m' m → m' (Str.ofString "line") = some (.str (tx (32 :: decN st)) t') → News h₀ L s'.heap S → wpAny (model (PySem.Challenge.rw_ul0012_01).prog w) (callerA.deeper (envOfC (Str.ofString "law") lawSc L fa cd)) (execs rest (envOfC (Str.ofString "law") lawSc L fa cd)) Q E s') : wpAny (model (PySem.Challenge.rw_ul0012_01).prog w) (callerA.deeper (envOfC (Str.ofString "law") lawSc L fa cd)) (execs (lawAt 7 :: rest) (envOfC (Str.ofString "law") lawSc L fa cd)) Q E s := by
  conv in lawAt 7 => whnf
  conv in (occs := *) lawSc => all_goals whnf
  revert X; k_fill; intro X
  have F0 := fr_put (Str.ofString "start") F e1
  clear F
  have hl := decN_len h0 (show st < 10 ^ 7 by omega)
  k_with "my add" => (refine add_txS ofs_blank (decN_tx st) (by simp only [List.length_cons, List.length_nil]; omega) ?_; intro t8 k8)
  k_steps
  rename_i h9 F9 N9
  exact next _ _ t8 ⟨rfl, fun h => h⟩ F9 (.put (.same .refl e1) (.head _)) rfl N9
end Mine
end
section -- P257
open PySem PySem.Spec PySem.Calls PySem.W PyProof.Rows
namespace Mine
theorem clear_P257 : True := by
  k_with_none
  w_top off
  exact True.intro

local macro_rules | `(tactic| k_all) => `(tactic| assumption)
local macro_rules | `(tactic| walk_at "binaryOp Add str str") => `(tactic| k_extra "my add")
local macro_rules | `(tactic| walk_at "exec While Compare cons nil") => `(tactic| k_dflt (refine wpAny_While ?_))
theorem item_at {x : Str} {l : List Nat} (hx : x = tx ([50, 53, 55, 32, 34] ++ l)) {k : Nat} {z : Int} (hz : z = 5 + (k : Int)) (hk : k < l.length) : Txt.item x z = tx [l.getD k 0] := by
  rw [hx]
  refine tx_item (by omega) ?_
  have e : z.toNat = 5 + k := by omega
  rw [e, List.getElem?_append_right (by simp), List.getD_eq_getElem?_getD]
  simp [List.getElem?_eq_getElem hk]
theorem item_eq {x : Str} {z : Int} {c : Nat} {b : Bool} (h : Txt.item x z = tx [c]) (e : (Txt.item x z == Str.ofString "\"") = b) : (c == 34) = b := by
  rw [h, ofs_quote, tx_beq] at e
  rw [← e]; simp
theorem item_ne {x : Str} {z : Int} {c : Nat} {b : Bool} (h : Txt.item x z = tx [c]) (e : (Txt.item x z != Str.ofString "\"") = b) : (c != 34) = b := by
  rw [h, ofs_quote, bne, tx_beq] at e
  rw [← e]; simp [bne]
theorem drop_at {l : List Nat} {k : Nat} (h : k < l.length) : l.drop k = l.getD k 0 :: l.drop (k + 1) := by
  rw [List.drop_eq_getElem_cons h, List.getD_eq_getElem?_getD, List.getElem?_eq_getElem h]; rfl
theorem parse257_ok (w : World) {mean : ExcName → Option Value} {mg mb : Str → Option Value}
    {dp un : Nat} {gd : Option (List Code)} {cn : Str} {cs : Scope} {a : Addr} {ccd : Value} {cl : List (Str × Addr)} {outer : List Env} {A₀ : Around} {base h₀ : Heap} {L : Addr} {m : Str → Option Value} {s : Shared}
    {Q E : Value → Shared → Prop}
    (B : Below A₀ base outer h₀) (F : Fr h₀ L s.heap m) (X : (Mine.hd.heap_39 w.params).In h₀) (T : Top topProg Mine.loose39 mean mg mb h₀) (hk : cs.kind = .function) {x : Str} {l : List Nat} {t1 : Tok} (hx : x = tx ([50, 53, 55, 32, 34] ++ l))
    (hd : dp + 1 < recursionLimit) (hu : un + 8 < cLine) (hlen : l.length ≤ 100)
    (hret : ∀ h' tk' u, ExtB [] s.heap h' → Q (.str (tx (p257 l)) u) { s with heap := h', toks := tk' }) : wpAny (model (PySem.Challenge.rw_ul0012_01).prog w) (ktrTop dp un gd cn cs L a ccd cl outer) (call (.ref 124) [.str x t1]) Q E s := by
  revert X; k_fill; intro X
  (refine wpAny_call ?_); k_dflt (refine' enterPK (S := []) (binds := [(Str.ofString "resp", .str x t1)]) ?k1 ?k2 ?k3 ?k4 ?k5 ?kA ?kF ?kK ?k6 ?k7 ?k8 ?k9 ?kB ?_ ?c2 ?c3 ?c4 ?c5; (case kA => exact rfl); (case kF => exact rfl); (case kK => assumption); (case k1 => k_asm); (case k2 => k_asm); (case k3 => k_asm); (case k4 => first | exact News.nil | k_asm); (case k5 => k_asm); (case k6 => k_is); (case k7 => k_is); (case k8 => ktr_room); (case k9 => exact BindsTo.of_eq rfl); (case c5 => decide); (case kB => exact locs rfl); (case c2 => exact rfl); (case c3 => exact rfl); (case c4 => exact rfl); k_whole; intro g' L' h' FG' GX F' N' B' X' T' l0; (try dsimp only); (try k_fold); (try (change (let A0 := _; wpAny _ A0 _ _ _ _); intro A0)))
  have hs1 : (Txt.slice x none (some 3) != Str.ofString "257") = false := by
    rw [hx, tx_slice_to (by simp; omega), ofs_257]; simp [bne]
  have hs2 : (Txt.slice x (some 3) (some 5) != Str.ofString " \"") = false := by
    rw [hx, tx_slice (by simp; omega), ofs_sq]; simp [bne]
  have hxl : x.length = 5 + l.length := by rw [hx, tx_len]; simp; omega
  have hfit : ¬ (x.length : Int) ≥ 2 ^ 63 := by omega
  k_with "call builtin:len" => (refine P.len_str hfit ?_)
  k_steps
  all_goals try (exfalso; simp_all; done)
  rename Fr _ _ _ _ => F1; rename News _ _ _ _ => N1
  rw [ofs_nil] at F1
  refine whileI (fun k s' => ∃ h tk m₁ j d iv ti td tn, s' = { s with heap := h, toks := tk } ∧ Fr g' L' h m₁ ∧ News g' L' h [] ∧ m₁ (Str.ofString "i") = some (.int iv ti) ∧ iv = 5 + ((j : Nat) : Int) ∧ m₁ (Str.ofString "n") = some (.int (5 + (l.length : Nat)) tn) ∧
    m₁ (Str.ofString "resp") = some (.str x t1) ∧ m₁ (Str.ofString "dirname") = some (.str (tx d) td) ∧ j ≤ l.length ∧ d ++ p257 (l.drop j) = p257 l ∧ k = l.length - j) ?_ l.length ?_
  · rintro k s' ⟨h, tk, m₁, j, d, iv, ti, td, tn, rfl, F₁, N₁, e1, rfl, e2, e3, e4, hj, hd', rfl⟩
    have F₂ := fr_put (Str.ofString "dirname") (fr_put (Str.ofString "resp") (fr_put (Str.ofString "n") (fr_put (Str.ofString "i") F₁ e1) e2) e3) e4
    clear F₁
    have hit := item_at (k := j) (z := 5 + (j : Int)) hx rfl
    have hit2 := item_at (k := j + 1) (z := 5 + (j : Int) + 1) hx (by omega)
    have hdl : d.length ≤ 100 := by
      have h1 := congrArg List.length hd'
      rw [List.length_append] at h1
      have h2 := p257_len l
      omega
    k_with "my add" => (refine add_txS rfl (hit (by omega)) (by simp; omega) ?_; intro t8 k8)
    k_steps
    all_goals (try dsimp only [WhileQ])
    · rename (Txt.item x (5 + (j : Int)) == Str.ofString "\"") = true => hc
      have hlt : j < l.length := by omega
      have h34 := eq_of_beq (item_eq (hit hlt) hc)
      have hnil : l.drop (j + 1) = [] := List.drop_eq_nil_of_le (by omega)
      have : d = p257 l := by
        rw [← hd', p257_end (l := l.drop j) (l.drop (j + 1)) (by rw [drop_at hlt, h34]) (by rw [hnil]; simp)]; simp
      rw [← this] at hret
      k_steps
      exact hret _ _ _ (ext_end GX (by assumption))
    · rename (Txt.item x (5 + (j : Int)) == Str.ofString "\"") = true => hc
      rename (Txt.item x (5 + (j : Int) + 1) != Str.ofString "\"") = true => hc2
      have hlt : j < l.length := by omega
      have hlt2 : j + 1 < l.length := by omega
      have h34 := eq_of_beq (item_eq (hit hlt) hc)
      have hn34 := item_ne (hit2 hlt2) hc2
      have : d = p257 l := by
        rw [← hd', p257_end (l := l.drop j) (l.drop (j + 1)) (by rw [drop_at hlt, h34]) (by rw [drop_at hlt2]; simpa using hn34)]; simp
      rw [← this] at hret
      k_steps
      exact hret _ _ _ (ext_end GX (by assumption))
    · rename (Txt.item x (5 + (j : Int)) == Str.ofString "\"") = true => hc
      rename (Txt.item x (5 + (j : Int) + 1) != Str.ofString "\"") = false => hc2
      rename Fr _ _ _ _ => kF; rename News _ _ _ _ => kN
      have hlt : j < l.length := by omega
      have hlt2 : j + 1 < l.length := by omega
      have h34 := eq_of_beq (item_eq (hit hlt) hc)
      have h342 : l.getD (j + 1) 0 = 34 := by simpa using item_ne (hit2 hlt2) hc2
      refine ⟨l.length - (j + 2), by omega, _, _, _, j + 2, _, _, _, _, _, rfl, kF, kN, rfl, by omega, rfl, rfl, rfl, by omega, ?_, rfl⟩
      have hp := p257_two (l := l.drop j) (l.drop (j + 2)) (by rw [drop_at hlt, drop_at hlt2, h34, h342])
      rw [← hd', hp, h34, List.append_assoc]; rfl
    · rename (Txt.item x (5 + (j : Int)) == Str.ofString "\"") = false => hc
      rename Fr _ _ _ _ => kF; rename News _ _ _ _ => kN
      have hlt : j < l.length := by omega
      have hn34 : l.getD j 0 ≠ 34 := by simpa using item_eq (hit hlt) hc
      refine ⟨l.length - (j + 1), by omega, _, _, _, j + 1, _, _, _, _, _, rfl, kF, kN, rfl, by omega, rfl, rfl, rfl, by omega, ?_, rfl⟩
      rw [← hd', p257_step (l := l.drop j) (l.drop (j + 1)) (drop_at hlt) hn34, List.append_assoc]; rfl
    · have : d = p257 l := by rw [← hd', show j = l.length by omega, List.drop_length]; simp [p257]
      rw [this]
      exact hret _ _ _ (ext_end GX (by assumption))
  · exact ⟨_, _, _, 0, [], _, _, _, _, rfl, F1, N1, rfl, rfl, by show some (Value.int (x.length : Int) _) = _; rw [hxl]; rfl, rfl, rfl, Nat.zero_le _, by simp, rfl⟩
end Mine
end
section -- KEPT
open PySem PySem.Spec PySem.Calls PySem.W PyProof.Rows
namespace Mine
theorem clear_KEPT : True := by
  k_with_none
  w_top off
  exact True.intro

local macro_rules | `(tactic| k_all) => `(tactic| assumption)
local macro_rules | `(tactic| walk_at "call ref") => `(tactic| k_extra "my call")
local macro_rules | `(tactic| walk_at "binaryOp Add str str") => `(tactic| k_extra "my add")
local macro_rules | `(tactic| walk_at "pyIter ref") => `(tactic| k_extra "my iter")
local macro_rules | `(tactic| walk_at "exec For Name Call cons nil") => `(tactic| k_dflt (refine wpAny_For ?_))
theorem times_kept_ok (w : World) {mean : ExcName → Option Value} {mg mb : Str → Option Value}
    {dp un : Nat} {gd : Option (List Code)} {cn : Str} {cs : Scope} {a : Addr} {ccd : Value} {cl : List (Str × Addr)} {outer : List Env} {A₀ : Around} {base h₀ : Heap} {L : Addr} {m : Str → Option Value} {s : Shared}
    {Q E : Value → Shared → Prop}
    (B : Below A₀ base outer h₀) (F : Fr h₀ L s.heap m) (X : (Mine.hd.heap_39 w.params).In h₀) (T : Top topProg Mine.loose39 mean mg mb h₀) (hk : cs.kind = .function) {q : Nat} {t1 : Tok} 
    (hd : dp + 10 < recursionLimit) (hu : un + 80 < cLine) (hq : q ≤ 60)
    (hret : ∀ h' tk' u, ExtB [] s.heap h' → Q (.int (keptF 5 q) u) { s with heap := h', toks := tk' }) : wpAny (model (PySem.Challenge.rw_ul0012_01).prog w) (ktrTop dp un gd cn cs L a ccd cl outer) (call (.ref 131) [.int (q : Int) t1]) Q E s := by
  revert X; k_fill; intro X
  (refine wpAny_call ?_); k_dflt (refine' enterPK (S := []) (binds := [(Str.ofString "quotes", .int (q : Int) t1)]) ?k1 ?k2 ?k3 ?k4 ?k5 ?kA ?kF ?kK ?k6 ?k7 ?k8 ?k9 ?kB ?_ ?c2 ?c3 ?c4 ?c5; (case kA => exact rfl); (case kF => exact rfl); (case kK => assumption); (case k1 => k_asm); (case k2 => k_asm); (case k3 => k_asm); (case k4 => first | exact News.nil | k_asm); (case k5 => k_asm); (case k6 => k_is); (case k7 => k_is); (case k8 => ktr_room); (case k9 => exact BindsTo.of_eq rfl); (case c5 => decide); (case kB => exact locs rfl); (case c2 => exact rfl); (case c3 => exact rfl); (case c4 => exact rfl); k_whole; intro g' L' h' FG' GX F' N' B' X' T' l0; (try dsimp only); (try k_fold); (try (change (let A0 := _; wpAny _ A0 _ _ _ _); intro A0)))
  have hm1 : Txt.mul (Str.ofString "\"") (q : Int) = tx (List.replicate q 34) := by rw [ofs_quote, tx_mul1]
  k_with "my add" => (refine add_txS hm1 ofs_x (by simp; omega) ?_; intro t8 k8)
  k_with "my iter" => (k_dflt (refine' pyIter_rangeN ?F ?N (by assumption) (by decide) ?_; (case F => k_asm); (case N => k_asm)); intro I9 h9 F9 N9 l9)
  k_steps
  dsimp only
  refine forRange (L := L') (n := 5) rfl (by decide) (fun i m₁ news₁ => ∃ rt kt q', m₁ (Str.ofString "run") = some (.str (tx (qx q')) rt) ∧ m₁ (Str.ofString "kept") = some (.int (i : Nat) kt) ∧ keptF 5 q = (i : Int) + keptF (5 - i) q' ∧ q' ≤ 60 ∧ news₁ = []) F9 N9 (fun _ h => nomatch h) ⟨_, _, q, rfl, rfl, by simp, hq, rfl⟩ ?_ ?_
  · rintro i t m₁ news₁ h tk o hi ⟨rt, kt, q', e1, e2, e3, hq', rfl⟩ hI F₁ N₁
    have F₂ := fr_put (Str.ofString "run") (fr_put (Str.ofString "kept") F₁ e2) e1
    clear F₁
    have h5 : 5 - i = (5 - (i + 1)) + 1 := by omega
    have hql := qx_len q'
    k_with "my add" => (refine add_txS ofs_257q rfl (by rw [hql]; simp; omega) ?_; intro t8 k8)
    k_with "my call" => (k_dflt (refine' parse257_ok (l := qx q') w ?b1 ?b2 ?b3 ?b4 ?b5 ?a0 ?a5 ?a6 ?a7 ?_; (case b1 => k_asm); (case b2 => k_asm); (case b3 => k_asm); (case b4 => k_asm); (case b5 => exact rfl); (case a0 => exact rfl); (case a5 => exact (by omega : dp + 1 + 1 < recursionLimit)); (case a6 => exact (by omega : un + 3 + 8 < cLine)); (case a7 => (rw [hql]; omega))); intro h7 tk7 u7 E7; (have F7 := E7.fr (by k_asm) (fun _ h => nomatch h)); (have N7 := E7.news (by k_asm) (fun _ _ h => nomatch h)); (try dsimp only); (try k_fold))
    have hsz : (tx (p257 (qx q'))).length ≤ 100 := by rw [tx_len]; exact Nat.le_trans (p257_len _) (by rw [hql]; omega)
    by_cases hp : q' % 2 = 0
    · have hv : p257 (qx q') = qx (q' / 2) := by rw [p257_qx, if_pos hp]; rfl
      have hb : (Txt.slice (tx (p257 (qx q'))) (some (-1)) none != Str.ofString "x") = false := by
        rw [hv, tx_last, qx, last_even, ofs_x]; simp [bne]
      k_steps
      rename Fr _ _ _ _ => kF
      rename News _ _ _ _ => kN
      rw [hv] at kF
      refine TurnQ.intro kF kN (fun _ h => nomatch h) ⟨_, _, q' / 2, rfl, rfl, ?_, by omega, rfl⟩
      rw [e3, h5, keptF, if_pos hp]; push_cast; omega
    · have hv : p257 (qx q') = List.replicate (q' / 2) 34 := by rw [p257_qx, if_neg hp, List.append_nil]
      have hb : (Txt.slice (tx (p257 (qx q'))) (some (-1)) none != Str.ofString "x") = true := by
        rw [hv, tx_last, ofs_x, bne, tx_beq]
        simpa using last_odd (q' / 2)
      have hz : keptF 5 q = (i : Int) := by rw [e3, h5, keptF, if_neg hp]; omega
      rw [hz] at hret
      clear hz e3
      k_steps
      dsimp only [TurnQ]
      try k_fold
      k_steps
      exact hret _ _ _ (ext_end GX (by assumption))
  · intro m₁ news₁ h tk ⟨rt, kt, q', e1, e2, e3, hq', e4⟩ F₁ N₁
    subst e4
    have F₂ := fr_put (Str.ofString "kept") F₁ e2
    clear F₁
    have hz : keptF 5 q = ((5 : Nat) : Int) := by rw [e3]; simp [keptF]
    rw [hz] at hret
    k_steps
    exact hret _ _ _ (ext_end GX (by assumption))
end Mine
end
section -- Ph8
open PySem PySem.Spec PySem.Calls PySem.W PyProof.Rows
namespace Mine
local macro_rules | `(tactic| walk_at "none") => `(tactic| fail "none")
theorem clear_Ph8 : True := by
  k_with_none
  w_top off
  exact True.intro

local macro_rules | `(tactic| k_all) => `(tactic| assumption)
local macro_rules | `(tactic| walk_at "call ref") => `(tactic| k_dflt (k_extra "my call"))
local macro_rules | `(tactic| walk_at "binaryOp Add str str") => `(tactic| k_extra "my add")
local macro_rules | `(tactic| walk_at "pyIter ref") => `(tactic| fail "mine")
local macro_rules | `(tactic| walk_at "exec For Name Call cons nil") => `(tactic| k_dflt (refine wpAny_For ?_))
theorem ph8 (w : World) {mean : ExcName → Option Value} {mg mb : Str → Option Value} {fa : Addr} {cd : Value} {h₀ : Heap} {L : Addr} {m : Str → Option Value} {s : Shared} {rest : List Stmt} {Q : Flow → Shared → Prop} {E : Value → Shared → Prop}
    (B : Below callerA h₀ [] h₀) (F : Fr h₀ L s.heap m) (X : (Mine.hd.heap_39 w.params).In h₀) (T : Top topProg Mine.loose39 mean mg mb h₀) (C28 : CodeHd h₀ 28 24) (C63 : CodeHd h₀ 63 59) (C56 : CodeHd h₀ 56 52) {t : Tok} {S : List (Addr × Obj)} {nums : List Int} {nl : Addr} {zs : List Value} {kz : Nat} {oN : Obj} (e1 : m (Str.ofString "line") = some (.str (tx (lineI nums 0)) t)) (hn : ∀ n ∈ nums, 0 ≤ n ∧ n < 10 ^ 7) (h1 : 1 ≤ nums.length) (h16 : nums.length ≤ 16) (hz : IntsAre zs nums) (dN : oN.data = .cell (some (.ref nl)))
    (N : News h₀ L s.heap ((nl, W.listOf zs.toArray kz) :: (L + 1, oN) :: S))
    (next : ∀ s' m' t', Same s s' → Fr h₀ L s'.heap m' → Agree [(Str.ofString "line"), (Str.ofString "place")] m' m → m' (Str.ofString "line") = some (.str (tx (lineI nums (nums.length - 1))) t') → News h₀ L s'.heap ((nl, W.listOf zs.toArray kz) :: (L + 1, oN) :: S) → wpAny (model (PySem.Challenge.rw_ul0012_01).prog w) (callerA.deeper (envOfC (Str.ofString "law") lawSc L fa cd)) (execs rest (envOfC (Str.ofString "law") lawSc L fa cd)) Q E s') : wpAny (model (PySem.Challenge.rw_ul0012_01).prog w) (callerA.deeper (envOfC (Str.ofString "law") lawSc L fa cd)) (execs (lawAt 8 :: rest) (envOfC (Str.ofString "law") lawSc L fa cd)) Q E s := by
  conv in lawAt 8 => whnf
  conv in (occs := *) lawSc => all_goals whnf
  revert X; k_fill; intro X
  have F0 := fr_put (Str.ofString "line") F e1
  clear F
  have hzl := hz.length
  k_steps
  rename_i N6 F6 h6 tk6 t6 u6 v6 R6 F7 N7 _
  clear N6 F6
  have hsz : Builtin.Range.rangeSize 1 (nums.length : Int) 1 = ((nums.length - 1 : Nat) : Int) := by rw [rangeSize_one]; split <;> omega
  have hsm : Builtin.Range.small 1 (nums.length : Int) 1 = true := small_one (by decide) (by decide) (by omega) (by omega)
  refine pyIter_rangeN F7 N7 R6 hsm fun I h8 F8 N8 lI => ?_
  rw [hsz] at N8
  have hIt : ∀ p ∈ ((nl, W.listOf zs.toArray kz) :: (L + 1, oN) :: S), p.1 ≠ I := fun p hp => Nat.ne_of_lt (ktn_ltOf lI p hp)
  clear lI
  generalize hm0 : (fun y => if y = (Str.ofString "line") then some (Value.str (tx (lineI nums 0)) t) else m y) = m0 at *
  have hA0 : Agree [(Str.ofString "line"), (Str.ofString "place")] m0 m := by rw [← hm0]; exact .same .refl e1
  have hl0 : m0 (Str.ofString "line") = some (Value.str (tx (lineI nums 0)) t) := by rw [← hm0]; exact if_pos rfl
  refine forRangeS (n := nums.length - 1) rfl rfl (fun i m₁ nw => nw = (nl, W.listOf zs.toArray kz) :: (L + 1, oN) :: S ∧ Agree [(Str.ofString "line"), (Str.ofString "place")] m₁ m ∧ ∃ t', m₁ (Str.ofString "line") = some (.str (tx (lineI nums i)) t')) F8 N8 hIt ⟨rfl, hA0, _, hl0⟩ ?_ ?_
  · rintro i ti m₁ nw s₁ o hi ⟨rfl, hA, t', e'⟩ hI hsm₁ F₁ N₁
    have F₂ := fr_put (Str.ofString "line") F₁ e'
    clear F₁
    rw [show (1 : Int) + (i : Nat) = ((i + 1 : Nat) : Int) by omega]
    have hil : i + 1 < nums.length := by omega
    have hll := lineI_len hn i (by omega)
    have hg : nums[i + 1]? = some (nums.getD (i + 1) 0) := by rw [List.getD_eq_getElem?_getD, List.getElem?_eq_getElem hil]; rfl
    have hdl := decN_len (hn _ (getD_mem hil)).1 (hn _ (getD_mem hil)).2
    obtain ⟨g0, g1⟩ := hn _ (getD_mem hil)
    k_with "my call" => (refine' times_kept_ok w ?b1 ?b2 ?b3 ?b4 ?b5 ?a5 ?a6 ?a7 ?_; (case b1 => k_asm); (case b2 => k_asm); (case b3 => k_asm); (case b4 => k_asm); (case b5 => exact rfl); (case a5 => decide); (case a6 => decide); (case a7 => omega); intro h7 tk7 u7 E7; (have F7 := E7.fr (by k_asm) (fun _ h => nomatch h)); (have N7 := E7.news (by k_asm) (fun _ _ h => nomatch h)); (try dsimp only); (try k_fold))
    k_with "my add" => (refine' add_txS ?oz ?oa ?ob ?_; (case oz => exact rfl); (case oa => with_reducible (first | exact ofs_quote | exact ofs_blank | exact decN_tx _)); (case ob => (simp only [List.length_append, List.length_cons, List.length_nil]; omega)); intro t8 k8)
    k_steps
    · rw [Int.toNat_natCast]
      k_steps
      rename Fr _ _ _ _ => kF; rename News _ _ _ _ => kN; rename (keptF 5 (i + 1)).fmod 2 = 0 => hk
      rw [Int.fmod_eq_emod_of_nonneg _ (by decide)] at hk
      have hv : lineI nums i ++ [34] ++ [32] ++ decN (nums.getD (i + 1) 0) = lineI nums (i + 1) := by
        rw [lineI, if_pos hk, List.append_assoc (lineI nums i ++ [34])]; rfl
      rw [hv] at kF
      exact TurnS.intro ⟨hsm₁.1, hsm₁.2⟩ kF kN hI ⟨rfl, .put (.put (.put (.put hA (.head _)) (.tail _ (.head _))) (.head _)) (.head _), _, rfl⟩
    · k_steps
      rw [Int.toNat_natCast]
      k_steps
      rename Fr _ _ _ _ => kF; rename News _ _ _ _ => kN; rename (keptF 5 (i + 1)).fmod 2 ≠ 0 => hk
      rw [Int.fmod_eq_emod_of_nonneg _ (by decide)] at hk
      have hv : lineI nums i ++ [32] ++ decN (nums.getD (i + 1) 0) = lineI nums (i + 1) := by
        rw [lineI, if_neg hk, List.append_assoc (lineI nums i), List.append_nil]; rfl
      rw [hv] at kF
      exact TurnS.intro ⟨hsm₁.1, hsm₁.2⟩ kF kN hI ⟨rfl, .put (.put (.put hA (.head _)) (.tail _ (.head _))) (.head _), _, rfl⟩
  · rintro m₁ nw s₁ ⟨rfl, hA, t', e'⟩ hsm₁ F₁ N₁
    exact next s₁ m₁ t' hsm₁ F₁ hA e' N₁
end Mine
end
section -- Pure3
open PySem
namespace Mine
noncomputable def DInv (w : Nat) (b : Int) (D : List Int) (i : Nat) (r : Int) (qs : List Int) : Prop :=
  0 ≤ r ∧ r < b ∧ qs.length = i ∧ (∀ q ∈ qs, 0 ≤ q ∧ q < 2 ^ w) ∧ evalD w qs.reverse * b + r = evalD w (D.drop (D.length - i))
theorem dinv_start {w : Nat} {b : Int} (hb : 0 < b) (D : List Int) : DInv w b D 0 0 [] :=
  ⟨Int.le_refl _, hb, rfl, (fun _ h => nomatch h), by simp [evalD]⟩
theorem dinv_step {w : Nat} {b r d : Int} {D qs : List Int} {i : Nat} (h : DInv w b D i r qs) (hi : i < D.length) (hd : D[D.length - 1 - i]? = some d) (h0 : 0 ≤ d) (h1 : d < 2 ^ w) :
    DInv w b D (i + 1) ((r * 2 ^ w + d) % b) (qs ++ [(r * 2 ^ w + d) / b]) := by
  obtain ⟨a1, a2, a3, a4, a5⟩ := h
  have hb : 0 < b := by omega
  have hp : (0 : Int) < 2 ^ w := Int.pow_pos (by decide)
  have hv : 0 ≤ r * 2 ^ w + d := Int.add_nonneg (Int.mul_nonneg a1 (Int.le_of_lt hp)) h0
  refine ⟨Int.emod_nonneg _ (Int.ne_of_gt hb), Int.emod_lt_of_pos _ hb, by simp [a3], fun q hq => ?_, ?_⟩
  · rcases List.mem_append.mp hq with hq | hq
    · exact a4 q hq
    · rw [List.mem_singleton.mp hq]
      refine ⟨Int.ediv_nonneg hv (Int.le_of_lt hb), Int.ediv_lt_of_lt_mul hb ?_⟩
      have : (r + 1) * 2 ^ w ≤ b * 2 ^ w := Int.mul_le_mul_of_nonneg_right (by omega) (Int.le_of_lt hp)
      rw [Int.add_mul, Int.one_mul] at this
      rw [Int.mul_comm (2 ^ w) b]; omega
  · have e1 : D.length - (i + 1) = D.length - 1 - i := by omega
    have hlt : D.length - 1 - i < D.length := by omega
    have e2 : D.drop (D.length - (i + 1)) = d :: D.drop (D.length - i) := by
      rw [e1, List.drop_eq_getElem_cons hlt]
      rw [List.getElem?_eq_getElem hlt] at hd
      rw [Option.some.inj hd]
      congr 2; omega
    rw [e2, evalD, ← a5, List.reverse_append, List.reverse_cons, List.reverse_nil, List.nil_append, List.singleton_append, evalD]
    have h5 := Int.emod_add_mul_ediv (r * 2 ^ w + d) b
    rw [Int.add_mul, Int.mul_add, ← Int.mul_assoc, Int.mul_comm _ b, Int.mul_comm r]
    rw [Int.mul_comm r] at h5
    omega
theorem evalD_toD (w : Nat) : ∀ (k : Nat) (x : Int), evalD w (toD w x k) = x % 2 ^ (w * k)
  | 0, x => by simp [toD, evalD, Int.emod_one]
  | k + 1, x => by
    rw [toD, evalD, evalD_toD w k]
    have hp : (2 : Int) ^ (w * (k + 1)) = 2 ^ w * 2 ^ (w * k) := by rw [← Int.pow_add, Nat.mul_add, Nat.mul_one, Nat.add_comm]
    rw [hp]
    have h2 : (0 : Int) < 2 ^ w := Int.pow_pos (by decide)
    have e := Int.emod_add_mul_ediv x (2 ^ w)
    have e2 := Int.emod_add_mul_ediv (x / 2 ^ w) (2 ^ (w * k))
    have e3 := Int.emod_add_mul_ediv x (2 ^ w * 2 ^ (w * k))
    rw [← Int.ediv_ediv_of_nonneg (Int.le_of_lt h2)] at e3
    have e4 : 2 ^ w * (x / 2 ^ w) = 2 ^ w * (x / 2 ^ w % 2 ^ (w * k)) + 2 ^ w * 2 ^ (w * k) * (x / 2 ^ w / 2 ^ (w * k)) := by
      rw [Int.mul_assoc, ← Int.mul_add, e2]
    omega
theorem toD_bound (w : Nat) : ∀ (k : Nat) (x : Int), ∀ d ∈ toD w x k, 0 ≤ d ∧ d < 2 ^ w
  | 0, _ => fun _ h => nomatch h
  | k + 1, x => fun d h => by
    have h2 : (0 : Int) < 2 ^ w := Int.pow_pos (by decide)
    rcases List.mem_cons.mp h with rfl | h
    · exact ⟨Int.emod_nonneg _ (Int.ne_of_gt h2), Int.emod_lt_of_pos _ h2⟩
    · exact toD_bound w k _ d h
theorem dinv_end {w : Nat} {b r x : Int} {k : Nat} {qs : List Int} (h : DInv w b (toD w x k) k r qs) (hx : 0 ≤ x) (hl : x < 2 ^ (w * k)) : evalD w qs.reverse = x / b ∧ r = x % b := by
  obtain ⟨a1, a2, a3, a4, a5⟩ := h
  rw [toD_len, Nat.sub_self, List.drop_zero, evalD_toD, Int.emod_eq_of_lt hx hl] at a5
  have h1 : x / b = evalD w qs.reverse := by
    rw [← a5, Int.add_comm, Int.add_mul_ediv_right _ _ (by omega), Int.ediv_eq_zero_of_lt a1 a2, Int.zero_add]
  have h2 : x % b = r := by
    rw [← a5, Int.add_comm, Int.add_mul_emod_self_right, Int.emod_eq_of_lt a1 a2]
  exact ⟨h1.symm, h2.symm⟩
end Mine
namespace Mine
theorem small_of_bits {b r : Int} {W0 : Nat} (hw : Builtin.Int.intBits b = W0) (hW : W0 ≤ 64) (h0 : 0 ≤ r) (h1 : r < b) : r.natAbs < 2 ^ 64 := by
  have hb := lt_bits (x := b) (by omega)
  rw [hw] at hb
  obtain ⟨m, rfl⟩ := Int.eq_ofNat_of_zero_le h0
  have h2 : (m : Int) < 2 ^ W0 := Int.lt_trans h1 hb
  have h3 : m < 2 ^ W0 := by exact_mod_cast h2
  exact Nat.lt_of_lt_of_le h3 (Nat.pow_le_pow_right (by decide) hW)
theorem step_bits {r d : Int} {W0 : Nat} (hW : W0 ≤ 64) (hr : r.natAbs < 2 ^ 64) (h0 : 0 ≤ d) (h1 : d < 2 ^ W0) : Builtin.Int.intBits (r * 2 ^ ((W0 : Int)).toNat + d) ≤ 200 := by
  rw [Int.toNat_natCast]
  refine PyProof.Rows.intBits_le ?_
  have h2 : (r * 2 ^ W0).natAbs ≤ 2 ^ 64 * 2 ^ 64 := by
    rw [Int.natAbs_mul, Int.natAbs_pow]
    exact Nat.mul_le_mul (Nat.le_of_lt hr) (Nat.pow_le_pow_right (by decide) hW)
  have h3 : d.natAbs < 2 ^ 64 := by
    obtain ⟨m, rfl⟩ := Int.eq_ofNat_of_zero_le h0
    have h4 : m < 2 ^ W0 := by exact_mod_cast h1
    exact Nat.lt_of_lt_of_le h4 (Nat.pow_le_pow_right (by decide) hW)
  have h5 := Int.natAbs_add_le (r * 2 ^ W0) d
  have h6 : (2 : Nat) ^ 64 * 2 ^ 64 + 2 ^ 64 < 2 ^ 200 := by decide
  omega
theorem log_small {b : Int} (h : Builtin.Int.intBits b ≤ 64) : b.natAbs.log2 < 9000 := by
  unfold Builtin.Int.intBits at h
  by_cases hb : b = 0
  · subst hb; decide
  · rw [if_neg (by simpa using hb)] at h; omega
end Mine
end
section -- DMP
open PySem PySem.Spec PySem.Calls PySem.W PyProof.Rows
namespace Mine
theorem clear_DMP : True := by
  k_with_none
  w_top off
  exact True.intro

local macro_rules | `(tactic| k_all) => `(tactic| assumption)
local macro_rules | `(tactic| walk_at "call ref") => `(tactic| k_extra "my call")
local macro_rules | `(tactic| walk_at "binaryOp LShift int int") => `(tactic| k_extra "my lshift")
local macro_rules | `(tactic| walk_at "exec For Name Call cons nil") => `(tactic| k_dflt (refine wpAny_For ?_))
local macro_rules | `(tactic| walk_at "exec For Name Name cons nil") => `(tactic| k_dflt (refine wpAny_For ?_))
theorem divmod_pos_ok (w : World) {mean : ExcName → Option Value} {mg mb : Str → Option Value}
    {dp un : Nat} {gd : Option (List Code)} {cn : Str} {cs : Scope} {a : Addr} {ccd : Value} {cl : List (Str × Addr)} {outer : List Env} {A₀ : Around} {base h₀ : Heap} {L : Addr} {m : Str → Option Value} {s : Shared}
    {Q E : Value → Shared → Prop}
    (B : Below A₀ base outer h₀) (F : Fr h₀ L s.heap m) (X : (Mine.hd.heap_39 w.params).In h₀) (T : Top topProg Mine.loose39 mean mg mb h₀) (hk : cs.kind = .function) (C55 : CodeHd base 56 52) (C62 : CodeHd base 63 59) {x b : Int} {t1 t2 : Tok} {tb : List (Addr × Obj)}
    (N : News h₀ L s.heap tb) (hT : Tabs tb) (hd : dp + 210 < recursionLimit) (hu : un + 1630 < cLine) (hx : 0 ≤ x) (hb : 0 < b) (hb1 : Builtin.Int.intBits b ≤ 64) (hxb : Builtin.Int.intBits x ≤ 64 * Builtin.Int.intBits b)
    (hret : ∀ q h' tk' tb' u v, ExtB (tb.map (·.1)) s.heap h' → s.heap.get? q = none → News h₀ L h' ((q, { cls := .type "tuple", data := .seq #[.int (x / b) u, .int (x % b) v] }) :: tb') → Tabs tb' → (∀ p ∈ tb', p.1 ∈ tb.map (·.1) ∨ s.heap.get? p.1 = none) → (∀ p ∈ tb, p.1 ∈ tb'.map (·.1)) → (∀ p ∈ tb', p.1 ≠ q) → Q (.ref q) { s with heap := h', toks := tk' }) : wpAny (model (PySem.Challenge.rw_ul0012_01).prog w) (ktrTop dp un gd cn cs L a ccd cl outer) (call (.ref 71) [.int x t1, .int b t2]) Q E s := by
  revert X; k_fill; intro X
  (refine wpAny_call ?_); k_dflt (refine' enterPK (S := tb) (binds := [(Str.ofString "a", .int x t1), (Str.ofString "b", .int b t2)]) ?k1 ?k2 ?k3 ?k4 ?k5 ?kA ?kF ?kK ?k6 ?k7 ?k8 ?k9 ?kB ?_ ?c2 ?c3 ?c4 ?c5; (case kA => exact rfl); (case kF => exact rfl); (case kK => assumption); (case k1 => k_asm); (case k2 => k_asm); (case k3 => k_asm); (case k4 => first | exact News.nil | k_asm); (case k5 => k_asm); (case k6 => k_is); (case k7 => k_is); (case k8 => ktr_room); (case k9 => exact BindsTo.of_eq rfl); (case c5 => decide); (case kB => exact locs rfl); (case c2 => exact rfl); (case c3 => exact rfl); (case c4 => exact rfl); k_whole; intro g' L' h' FG' GX F' N' B' X' T' l0; (try dsimp only); (try k_fold); (try (change (let A0 := _; wpAny _ A0 _ _ _ _); intro A0)))
  have hnb : 1 ≤ Builtin.Int.intBits b := by
    unfold Builtin.Int.intBits
    rw [if_neg (by simp; omega)]; omega
  have C55' := CodeHd.keeps C55 B'.stays
  k_with "my call" => (k_dflt (refine' int2digits_use w (front := []) ?b1 ?b2 ?b3 ?b4 ?b5 ?c55 ?b7 hT ?a1 ?a5 ?a6 ?a2 ?a3 ?a4 ?a7 ?_; (case b1 => k_asm); (case b2 => k_asm); (case b3 => k_asm); (case b4 => k_asm); (case b5 => exact rfl); (case c55 => exact C55); (case b7 => k_asm); (case a5 => exact (by omega : dp + 1 + 200 < recursionLimit)); (case a6 => exact (by omega : un + 3 + 1600 < cLine)); (case a1 => exact (fun q h => nomatch h)); (case a2 => exact hx); (case a3 => omega); (case a4 => omega); (case a7 => omega)); intro q9 h9 tk9 tb9 ys9 F9 N9 T9 S9 A9 D9 I9 X9 sb9; (try dsimp only [List.nil_append]  at N9); (try dsimp only); (try k_fold))
  k_steps
  rename_i h4 tka h3 qd h2 lq1 h1a DR hD FD ND lD
  rw [Int.toNat_natCast] at I9
  generalize hw : Builtin.Int.intBits b = W0 at *
  generalize hDD : toD W0 x (numD x (W0 : Int)) = DD at *
  refine wpAny_pyIter_revIter (it := DR) (l := q9) (i := (ys9.length : Int) - 1) ⟨_, (ND _ (.head _)).1, rfl, rfl⟩ ?_
  dsimp only
  have q1 := ltN lq1.1; have q2 := ltN lD.1; have q3 := ltN lD.2.1
  have hqt := ktn_ltOf lq1.2
  have hDt := ktn_ltOf lD.2.2
  have hAqd : ∀ p ∈ tb9, p.1 ≠ qd := fun p hp => Nat.ne_of_lt (hqt p hp)
  have hADR : ∀ p ∈ tb9, p.1 ≠ DR := fun p hp => Nat.ne_of_lt (hDt p hp)
  have hlen : ys9.length = DD.length := I9.length
  have hDlen : DD.length = numD x (W0 : Int) := by rw [← hDD, toD_len]
  have hD64 : numD x (W0 : Int) ≤ 64 := numD_le (by omega) (by omega)
  refine forRev (L := L') (l := q9) (vs := ys9) (k := 0) rfl (by refine neN ?_; omega)
    (fun i m₁ news₁ => ∃ r ru tn xs qs k, m₁ (Str.ofString "b") = some (.int b t2) ∧ m₁ (Str.ofString "n") = some (.int (W0 : Int) tn) ∧ m₁ (Str.ofString "q_digits") = some (.ref qd) ∧ m₁ (Str.ofString "r") = some (.int r ru) ∧
      news₁ = (qd, W.listOf xs.toArray k) :: (q9, W.listOf ys9.toArray 0) :: tb9 ∧ IntsAre xs qs ∧ DInv W0 b DD i r qs) ?_ FD ND ?_ ?_ ?_ ?_
  · rintro i m₁ news₁ ⟨r, ru, tn, xs, qs, k, _, _, _, _, rfl, _⟩
    exact .tail _ (.head _)
  · intro p hp
    rcases List.mem_cons.mp hp with rfl | hp
    · refine neN ?_; dsimp only; omega
    · rcases List.mem_cons.mp hp with rfl | hp
      · refine neN ?_; dsimp only; omega
      · exact hADR p hp
  · exact ⟨0, _, _, [], [], 0, rfl, rfl, rfl, rfl, rfl, .nil, dinv_start hb DD⟩
  · rintro i v m₁ news₁ h tk o hi hv ⟨r, ru, tn, xs, qs, k, e1, e2, e3, e4, rfl, hxs, hinv⟩ hI F₁ N₁
    obtain ⟨d, hd⟩ : ∃ d, DD[DD.length - 1 - i]? = some d := ⟨_, List.getElem?_eq_getElem (by omega)⟩
    obtain ⟨td, htd⟩ := I9.get (DD.length - 1 - i) d hd
    rw [hlen, htd] at hv
    obtain rfl := Option.some.inj hv
    have hdb := toD_bound W0 (numD x (W0 : Int)) x d (hDD ▸ List.mem_of_getElem? hd)
    have F₂ := fr_put (Str.ofString "q_digits") (fr_put (Str.ofString "r") (fr_put (Str.ofString "n") (fr_put (Str.ofString "b") F₁ e1) e2) e4) e3
    clear F₁
    obtain ⟨i1, i2, i3, i4, i5⟩ := id hinv
    have hrp : r.natAbs < 2 ^ 64 := small_of_bits hw hb1 i1 i2
    have hbit := step_bits hb1 hrp hdb.1 hdb.2
    have hsz : xs.toArray.size ≤ sizeLine := by rw [List.size_toArray, hxs.length, i3, PySem.sizeLine_eq]; omega
    have hblog := log_small (b := b) (by omega)
    k_with "my lshift" => (refine lshift_int (by omega) ?_ ?_; focus (have := PyProof.Rows.intBits_le hrp; omega))
    k_with "my call" => (k_dflt (refine' div2n1n_use w ?b1 ?b2 ?b3 ?b4 ?b5 ?b7 ?a5 ?a6 ?a1 ?a2 ?a3 ?_; (case b1 => k_asm); (case b2 => k_asm); (case b3 => k_asm); (case b4 => k_asm); (case b5 => exact rfl); (case b7 => k_asm); (case a5 => exact (by omega : dp + 1 + 1 < recursionLimit)); (case a6 => exact (by omega : un + 3 + 8 < cLine)); (case a1 => exact hb); (case a2 => exact hblog); (case a3 => omega)); intro q8 h8 tk8 u8 v8 F8 N8 A8; (try simp only [Int.toNat_natCast] at N8); (have A8a := neN (A8 _ (.head _))); (have A8b := neN (A8 _ (.tail _ (.head _)))); (have A8c := neN (A8 _ (.tail _ (.tail _ (.head _))))); dsimp only at A8a A8b A8c; (try dsimp only); (try k_fold))
    k_steps
    rename Fr _ _ _ _ => kF; rename News _ _ _ _ => kN
    simp only [List.push_toArray] at kN
    have Dn := dinv_step hinv (by omega) hd hdb.1 hdb.2
    refine TurnQ.intro (news₂ := (qd, W.listOf (xs ++ [Value.int ((r * 2 ^ W0 + d) / b) u8]).toArray (k + 1)) :: (q9, W.listOf ys9.toArray 0) :: tb9) kF (cb_drop kN fun p hp => .tail _ hp) ?_ ⟨_, v8, tn, _, _, k + 1, rfl, rfl, rfl, rfl, rfl, ints_app hxs (ints_one _ u8), Dn⟩
    intro p hp
    rcases List.mem_cons.mp hp with rfl | hp
    · refine neN ?_; dsimp only; omega
    · exact hI p (.tail _ hp)
  · rintro m₁ news₁ h tk ⟨r, ru, tn, xs, qs, k, e1, e2, e3, e4, rfl, hxs, hinv⟩ F₁ N₁
    have F₂ := fr_put (Str.ofString "q_digits") (fr_put (Str.ofString "r") (fr_put (Str.ofString "n") (fr_put (Str.ofString "b") F₁ e1) e2) e4) e3
    clear F₁
    dsimp only
    obtain ⟨i1, i2, i3, i4, i5⟩ := id hinv
    have hzz : xs.toArray.toList.length ≤ sizeLine := by rw [List.toList_toArray, hxs.length, i3, PySem.sizeLine_eq]; omega
    have hlr : ∀ h', News g' L' h' ((qd, W.listOf xs.reverse.toArray k) :: (q9, W.listOf ys9.toArray 0) :: tb9) → h'.IsList qd xs.reverse.toArray := fun h' N' => PySem.IsL.isList (n := k) (N' _ (.head _)).1
    have hqb : ∀ d ∈ qs.reverse, d.natAbs < 2 ^ 100 := fun d hdm => by
      have hd2 := i4 d (List.mem_reverse.mp hdm)
      obtain ⟨m, rfl⟩ := Int.eq_ofNat_of_zero_le hd2.1
      have h4 : m < 2 ^ W0 := by exact_mod_cast hd2.2
      exact Nat.lt_of_lt_of_le h4 (Nat.pow_le_pow_right (by decide) (by omega))
    have hSep : Sep [(qd, W.listOf xs.reverse.toArray k), (q9, W.listOf ys9.toArray 0)] tb9 := by
      intro q hq p hp
      simp only [List.mem_cons, List.not_mem_nil, or_false] at hq
      rcases hq with rfl | rfl
      · exact Ne.symm (hAqd p hp)
      · exact Ne.symm (D9 p hp)
    k_with "call builtin:list.reverse" => (k_dflt (refine' kl_reverse (l := xs.reverse) ?F ?N ?e ?U ?z ?_; (case F => k_asm); (case N => k_asm); (case U => k_upd); (case e => simp); (case z => exact hzz)); intro h7 F7 N7)
    k_with "my call" => (k_dflt (refine' digits2int_use w (front := [(qd, W.listOf xs.reverse.toArray k), (q9, W.listOf ys9.toArray 0)]) ?b1 ?b2 ?b3 ?b4 ?b5 ?c62 ?b7 T9 ?a1 ?a5 ?a6 ?hl ?hlt (ints_rev hxs) ?a2 ?a3 ?a4 hqb ?_; (case b1 => k_asm); (case b2 => k_asm); (case b3 => k_asm); (case b4 => k_asm); (case b5 => exact rfl); (case c62 => exact C62); (case b7 => k_asm); (case a5 => exact (by omega : dp + 1 + 200 < recursionLimit)); (case a6 => exact (by omega : un + 3 + 1600 < cLine)); (case a1 => exact hSep); (case hl => exact hlr _ (by k_asm)); (case hlt => exact hAqd); (case a2 => (rw [List.length_reverse, i3]; omega)); (case a3 => omega); (case a4 => omega)); intro h6 tk6 tb6 u6 F6 N6 T6 S6 X6 sb6; (try simp only [Int.toNat_natCast, List.cons_append, List.nil_append] at N6 ⊢); (try dsimp only); (try k_fold))
    k_steps
    rename_i Dn hn Fn Nn ln kF kN Tc kX
    have hlD := ktn_ltOf ln.2.2
    have hDt6 : ∀ p ∈ tb6, p.1 ≠ Dn := fun p hp => Nat.ne_of_lt (hlD p hp)
    have hDtb : Dn ∉ tb.map (·.1) := fun hm => by
      obtain ⟨p, hp, e⟩ := List.mem_map.mp hm
      obtain ⟨p1, hp1, e1⟩ := List.mem_map.mp (sb9 p hp)
      obtain ⟨p2, hp2, e2⟩ := List.mem_map.mp (sb6 p1 hp1)
      exact hDt6 p2 hp2 (e2.trans (e1.trans e))
    have e9 := new_end GX Nn (.head _) hDtb
    have hlt : x < 2 ^ (W0 * numD x (W0 : Int)) := by
      have := numD_lt (n := (W0 : Int)) hx (by omega)
      rwa [← Int.natCast_mul, Int.toNat_natCast] at this
    rw [hlen, hDlen] at hinv
    rw [← hDD] at hinv
    have hend := dinv_end hinv hx hlt
    rw [hend.1, hend.2] at kN
    have N6t : News g' L' hn tb6 := cb_drop Nn fun p hp => .tail _ (.tail _ (.tail _ hp))
    have hsub : ∀ p ∈ tb, p.1 ∈ tb6.map (·.1) := fun p hp => by
      obtain ⟨p1, hp1, e1⟩ := List.mem_map.mp (sb9 p hp)
      rw [← e1]; exact sb6 p1 hp1
    refine hret Dn _ _ tb6 u6 ru (ext_end GX Fn) e9.1 (cb_drop kN fun p hp => ?_) T6 (old_or_new GX N6t) hsub hDt6
    rcases List.mem_cons.mp hp with rfl | hp
    · exact .head _
    · exact .tail _ (.tail _ (.tail _ hp))
end Mine
end
section -- IDM
open PySem PySem.Spec PySem.Calls PySem.W PyProof.Rows
namespace Mine
theorem clear_IDM : True := by
  k_with_none
  w_top off
  exact True.intro

local macro_rules | `(tactic| k_all) => `(tactic| assumption)
local macro_rules | `(tactic| walk_at "call ref") => `(tactic| k_extra "my call")
theorem not_divmod {x b : Int} (hb : 0 < b) : Builtin.bitNot (Builtin.bitNot x / b) = x / b ∧ b + Builtin.bitNot (Builtin.bitNot x % b) = x % b := by
  unfold Builtin.bitNot
  have h1 := Int.emod_add_mul_ediv (-x - 1) b
  have h2 := Int.emod_nonneg (-x - 1) (Int.ne_of_gt hb)
  have h3 := Int.emod_lt_of_pos (-x - 1) hb
  have h := (Int.ediv_emod_unique (a := x) (b := b) (r := b + (-((-x - 1) % b) - 1)) (q := -((-x - 1) / b) - 1) hb).mpr ⟨by
    rw [Int.mul_sub, Int.mul_neg, Int.mul_one]; omega, by omega, by omega⟩
  exact ⟨h.1.symm, h.2.symm⟩
theorem news_skip {h₀ h : Heap} {L : Addr} {a b : Addr × Obj} {r : List (Addr × Obj)} (N : News h₀ L h (a :: b :: r)) : News h₀ L h (a :: r) := fun p hp => by
  rcases List.mem_cons.mp hp with rfl | hp
  · exact N _ (.head _)
  · exact N _ (.tail _ (.tail _ hp))
/-- what is kept of the caller's heap by a call that turns the tables alone -/
theorem use_front {h₀ h h' : Heap} {L : Addr} {m : Str → Option Value} {front tb tb' : List (Addr × Obj)} (F : Fr h₀ L h m) (N : News h₀ L h (front ++ tb)) (hs : Sep front tb) (e : ExtB (tb.map (·.1)) h h')
    (hfr : ∀ p ∈ tb', p.1 ∈ tb.map (·.1) ∨ h.get? p.1 = none) : Fr h₀ L h' m ∧ News h₀ L h' front ∧ Sep front tb' :=
  ⟨ext_fr e F (sub_right N), news_renew (new := tb') e (sub_left N) hs, apart_new (sub_left N) hs hfr⟩
theorem int_divmod_pos (w : World) {mean : ExcName → Option Value} {mg mb : Str → Option Value}
    {dp un : Nat} {gd : Option (List Code)} {cn : Str} {cs : Scope} {a : Addr} {ccd : Value} {cl : List (Str × Addr)} {outer : List Env} {A₀ : Around} {base h₀ : Heap} {L : Addr} {m : Str → Option Value} {s : Shared}
    {Q E : Value → Shared → Prop}
    (B : Below A₀ base outer h₀) (F : Fr h₀ L s.heap m) (X : (Mine.hd.heap_39 w.params).In h₀) (T : Top topProg Mine.loose39 mean mg mb h₀) (hk : cs.kind = .function) (C55 : CodeHd base 56 52) (C62 : CodeHd base 63 59) {x b : Int} {t1 t2 : Tok} {tb : List (Addr × Obj)}
    (N : News h₀ L s.heap tb) (hT : Tabs tb) (hd : dp + 220 < recursionLimit) (hu : un + 1650 < cLine) (hx : 0 ≤ x) (hb : 0 < b) (hb1 : Builtin.Int.intBits b ≤ 64) (hxb : Builtin.Int.intBits x ≤ 64 * Builtin.Int.intBits b)
    (hret : ∀ q h' tk' tb' u v, ExtB (tb.map (·.1)) s.heap h' → s.heap.get? q = none → News h₀ L h' ((q, { cls := .type "tuple", data := .seq #[.int (x / b) u, .int (x % b) v] }) :: tb') → Tabs tb' → (∀ p ∈ tb', p.1 ∈ tb.map (·.1) ∨ s.heap.get? p.1 = none) → (∀ p ∈ tb, p.1 ∈ tb'.map (·.1)) → (∀ p ∈ tb', p.1 ≠ q) → Q (.ref q) { s with heap := h', toks := tk' }) : wpAny (model (PySem.Challenge.rw_ul0012_01).prog w) (ktrTop dp un gd cn cs L a ccd cl outer) (call (.ref 78) [.int x t1, .int b t2]) Q E s := by
  revert X; k_fill; intro X
  (refine wpAny_call ?_); k_dflt (refine' enterPK (S := tb) (binds := [(Str.ofString "a", .int x t1), (Str.ofString "b", .int b t2)]) ?k1 ?k2 ?k3 ?k4 ?k5 ?kA ?kF ?kK ?k6 ?k7 ?k8 ?k9 ?kB ?_ ?c2 ?c3 ?c4 ?c5; (case kA => exact rfl); (case kF => exact rfl); (case kK => assumption); (case k1 => k_asm); (case k2 => k_asm); (case k3 => k_asm); (case k4 => first | exact News.nil | k_asm); (case k5 => k_asm); (case k6 => k_is); (case k7 => k_is); (case k8 => ktr_room); (case k9 => exact BindsTo.of_eq rfl); (case c5 => decide); (case kB => exact locs rfl); (case c2 => exact rfl); (case c3 => exact rfl); (case c4 => exact rfl); k_whole; intro g' L' h' FG' GX F' N' B' X' T' l0; (try dsimp only); (try k_fold); (try (change (let A0 := _; wpAny _ A0 _ _ _ _); intro A0)))
  k_with "my call" => (k_dflt (refine' divmod_pos_ok w ?b1 ?b2 ?b3 ?b4 ?b5 ?c55 ?c62 ?b7 hT ?a5 ?a6 hx hb hb1 hxb ?_; (case b1 => k_asm); (case b2 => k_asm); (case b3 => k_asm); (case b4 => k_asm); (case b5 => exact rfl); (case c55 => exact C55); (case c62 => exact C62); (case b7 => k_asm); (case a5 => exact (by omega : dp + 1 + 210 < recursionLimit)); (case a6 => exact (by omega : un + 3 + 1630 < cLine))); intro q9 h9 tk9 tb9 u9 v9 E9 G9 N9 T9 O9 B9 A9; (have F9 := (use_front (front := []) (by k_asm) (by k_asm) (fun _ h => nomatch h) E9 O9).1); (try dsimp only); (try k_fold))
  k_steps
  try any_goals (exfalso; omega; done)
  · rename News _ _ _ _ => kN
    have hq9 : q9 ∉ tb.map (·.1) := fun hm => by
      obtain ⟨p, hp, e⟩ := List.mem_map.mp hm
      exact ne_new N' G9 p hp e
    have e9 := new_end GX N9 (.head _) hq9
    exact hret q9 _ _ tb9 u9 v9 (ext_end GX F9) e9.1 kN T9 (old_or_new GX fun p hp => N9 p (.tail _ hp)) B9 A9
theorem int_divmod_neg (w : World) {mean : ExcName → Option Value} {mg mb : Str → Option Value}
    {dp un : Nat} {gd : Option (List Code)} {cn : Str} {cs : Scope} {a : Addr} {ccd : Value} {cl : List (Str × Addr)} {outer : List Env} {A₀ : Around} {base h₀ : Heap} {L : Addr} {m : Str → Option Value} {s : Shared}
    {Q E : Value → Shared → Prop}
    (B : Below A₀ base outer h₀) (F : Fr h₀ L s.heap m) (X : (Mine.hd.heap_39 w.params).In h₀) (T : Top topProg Mine.loose39 mean mg mb h₀) (hk : cs.kind = .function) (C55 : CodeHd base 56 52) (C62 : CodeHd base 63 59) {x b : Int} {t1 t2 : Tok} {tb : List (Addr × Obj)}
    (N : News h₀ L s.heap tb) (hT : Tabs tb) (hd : dp + 230 < recursionLimit) (hu : un + 1660 < cLine) (hx : x < 0) (hb : 0 < b) (hb1 : Builtin.Int.intBits b ≤ 64) (hxb : Builtin.Int.intBits (-x - 1) ≤ 64 * Builtin.Int.intBits b)
    (hret : ∀ q h' tk' tb' u v, ExtB (tb.map (·.1)) s.heap h' → s.heap.get? q = none → News h₀ L h' ((q, { cls := .type "tuple", data := .seq #[.int (x / b) u, .int (x % b) v] }) :: tb') → Tabs tb' → (∀ p ∈ tb', p.1 ∈ tb.map (·.1) ∨ s.heap.get? p.1 = none) → (∀ p ∈ tb, p.1 ∈ tb'.map (·.1)) → (∀ p ∈ tb', p.1 ≠ q) → Q (.ref q) { s with heap := h', toks := tk' }) : wpAny (model (PySem.Challenge.rw_ul0012_01).prog w) (ktrTop dp un gd cn cs L a ccd cl outer) (call (.ref 78) [.int x t1, .int b t2]) Q E s := by
  (refine wpAny_call ?_); k_dflt (refine' enterPK (S := tb) (binds := [(Str.ofString "a", .int x t1), (Str.ofString "b", .int b t2)]) ?k1 ?k2 ?k3 ?k4 ?k5 ?kA ?kF ?kK ?k6 ?k7 ?k8 ?k9 ?kB ?_ ?c2 ?c3 ?c4 ?c5; (case kA => exact rfl); (case kF => exact rfl); (case kK => assumption); (case k1 => k_asm); (case k2 => k_asm); (case k3 => k_asm); (case k4 => first | exact News.nil | k_asm); (case k5 => k_asm); (case k6 => k_is); (case k7 => k_is); (case k8 => ktr_room); (case k9 => exact BindsTo.of_eq rfl); (case c5 => decide); (case kB => exact locs rfl); (case c2 => exact rfl); (case c3 => exact rfl); (case c4 => exact rfl); k_whole; intro g' L' h' FG' GX F' N' B' X' T' l0; (try dsimp only); (try k_fold); (try (change (let A0 := _; wpAny _ A0 _ _ _ _); intro A0)))
  have hx9 : 0 ≤ -x - 1 := by omega
  k_with "my call" => (k_dflt (refine' int_divmod_pos w ?b1 ?b2 ?b3 ?b4 ?b5 ?c55 ?c62 ?b7 hT ?a5 ?a6 hx9 hb hb1 hxb ?_; (case b1 => k_asm); (case b2 => k_asm); (case b3 => k_asm); (case b4 => k_asm); (case b5 => exact rfl); (case c55 => exact C55); (case c62 => exact C62); (case b7 => k_asm); (case a5 => exact (by omega : dp + 1 + 220 < recursionLimit)); (case a6 => exact (by omega : un + 3 + 1650 < cLine))); intro q9 h9 tk9 tb9 u9 v9 E9 G9 N9 T9 O9 B9 A9; (have F9 := (use_front (front := []) (by k_asm) (by k_asm) (fun _ h => nomatch h) E9 O9).1); (try dsimp only); (try k_fold))
  k_steps
  try any_goals (exfalso; omega; done)
  · rename_i Dn hn Fn Nn ln kF kN Tc kX
    have hnd := not_divmod (x := x) hb
    rw [hnd.1, hnd.2] at kN
    have hlD := ktn_ltOf ln.2
    have hDt : ∀ p ∈ tb9, p.1 ≠ Dn := fun p hp => Nat.ne_of_lt (hlD p hp)
    have hDtb : Dn ∉ tb.map (·.1) := fun hm => by
      obtain ⟨p, hp, e⟩ := List.mem_map.mp hm
      obtain ⟨p1, hp1, e1⟩ := List.mem_map.mp (B9 p hp)
      exact hDt p1 hp1 (e1.trans e)
    have e9 := new_end GX Nn (.head _) hDtb
    have N6t : News g' L' hn tb9 := cb_drop Nn fun p hp => .tail _ (.tail _ hp)
    exact hret Dn _ _ tb9 _ _ (ext_end GX Fn) e9.1 (news_skip kN) T9 (old_or_new GX N6t) B9 hDt
theorem int_divmod_use (w : World) {mean : ExcName → Option Value} {mg mb : Str → Option Value}
    {dp un : Nat} {gd : Option (List Code)} {cn : Str} {cs : Scope} {a : Addr} {ccd : Value} {cl : List (Str × Addr)} {outer : List Env} {A₀ : Around} {base h₀ : Heap} {L : Addr} {m : Str → Option Value} {s : Shared}
    {Q E : Value → Shared → Prop}
    (B : Below A₀ base outer h₀) (F : Fr h₀ L s.heap m) (X : (Mine.hd.heap_39 w.params).In h₀) (T : Top topProg Mine.loose39 mean mg mb h₀) (hk : cs.kind = .function) (C55 : CodeHd base 56 52) (C62 : CodeHd base 63 59) {x b : Int} {t1 t2 : Tok} {front tb : List (Addr × Obj)}
    (N : News h₀ L s.heap (front ++ tb)) (hT : Tabs tb) (hs : Sep front tb) (hd : dp + 230 < recursionLimit) (hu : un + 1660 < cLine) (hb : 0 < b) (hb1 : Builtin.Int.intBits b ≤ 64) (hxb : Builtin.Int.intBits x ≤ 64 * Builtin.Int.intBits b)
    (hret : ∀ q h' tk' tb' u v, Fr h₀ L h' m → News h₀ L h' ((q, { cls := .type "tuple", data := .seq #[.int (x / b) u, .int (x % b) v] }) :: (front ++ tb')) → Tabs tb' → Sep front tb' → (∀ p ∈ front, p.1 ≠ q) → (∀ p ∈ tb', p.1 ≠ q) → ExtB (tb.map (·.1)) s.heap h' → (∀ p ∈ tb, p.1 ∈ tb'.map (·.1)) → Q (.ref q) { s with heap := h', toks := tk' }) : wpAny (model (PySem.Challenge.rw_ul0012_01).prog w) (ktrTop dp un gd cn cs L a ccd cl outer) (call (.ref 78) [.int x t1, .int b t2]) Q E s := by
  have hh : ∀ q h' tk' tb' u v, ExtB (tb.map (·.1)) s.heap h' → s.heap.get? q = none → News h₀ L h' ((q, { cls := .type "tuple", data := .seq #[.int (x / b) u, .int (x % b) v] }) :: tb') → Tabs tb' → (∀ p ∈ tb', p.1 ∈ tb.map (·.1) ∨ s.heap.get? p.1 = none) → (∀ p ∈ tb, p.1 ∈ tb'.map (·.1)) → (∀ p ∈ tb', p.1 ≠ q) → Q (.ref q) { s with heap := h', toks := tk' } := by
    intro q h' tk' tb' u v e hq N' T' O' B' A'
    obtain ⟨F', Nf, hs'⟩ := use_front F N hs e O'
    refine hret q h' tk' tb' u v F' (fun p hp => ?_) T' hs' (ne_new (sub_left N) hq) A' e B'
    rcases List.mem_cons.mp hp with rfl | hp
    · exact N' _ (.head _)
    · rcases List.mem_append.mp hp with hp | hp
      · exact Nf p hp
      · exact N' _ (.tail _ hp)
  by_cases hx : 0 ≤ x
  · exact int_divmod_pos w B F X T hk C55 C62 (sub_right N) hT (by omega) (by omega) hx hb hb1 hxb hh
  · refine int_divmod_neg w B F X T hk C55 C62 (sub_right N) hT hd hu (by omega) hb hb1 (Nat.le_trans ?_ hxb) hh
    exact intBits_le_iff.mpr (Nat.lt_of_le_of_lt (by omega) (intBits_le_iff.mp (Nat.le_refl (Builtin.Int.intBits x))))
end Mine
end
section -- LUse
open PySem PySem.Spec PySem.Calls PySem.W PyProof.Rows
namespace Mine

theorem left_use (w : World) {mean : ExcName → Option Value} {mg mb : Str → Option Value}
    {dp un : Nat} {gd : Option (List Code)} {cn : Str} {cs : Scope} {a : Addr} {ccd : Value} {cl : List (Str × Addr)} {outer : List Env} {A₀ : Around} {base h₀ : Heap} {L : Addr} {m : Str → Option Value} {s : Shared}
    {Q E : Value → Shared → Prop}
    (B : Below A₀ base outer h₀) (F : Fr h₀ L s.heap m) (X : (Mine.hd.heap_39 w.params).In h₀) (T : Top topProg Mine.loose39 mean mg mb h₀) (hk : cs.kind = .function) (C27 : CodeHd base 28 24) {l : List Nat} {ns : List Int} {t1 : Tok} {front tb : List (Addr × Obj)} (N : News h₀ L s.heap (front ++ tb)) (hT : Tabs tb) (hs : Sep front tb)
    (hd : dp + 50 < recursionLimit) (hu : un + 200 < cLine) (hlen : l.length ≤ 900) (hdg : ∀ c ∈ l, c = 32 ∨ c = 34 ∨ (48 ≤ c ∧ c ≤ 57))
    (hnsz : ns.length ≤ sizeLine) (hns : ∀ n ∈ ns, 0 ≤ n ∧ n < 10 ^ 10) (hw : Txt.words (tx (unq false (closeL l))) = ns.map (fun n => Str.ofString (toString n)))
    (hret : ∀ q h' tk' tb' g' dr ys, Fr h₀ L h' m → News h₀ L h' ((q, LCg.lst ys) :: (front ++ tb')) → IntsAre ys ns → Tabs tb' → Sep ((q, LCg.lst ys) :: front) tb' → (∀ p ∈ front, p.1 ≠ q) →
      ((∀ y ∈ s.gens, y.bare = true) → ∀ y ∈ g', y.bare = true) → Q (.ref q) { s with heap := h', gens := g', toks := tk', drawn := dr }) : wpAny (model (PySem.Challenge.rw_ul0012_01).prog w) (ktrTop dp un gd cn cs L a ccd cl outer) (call (.ref 136) [.str (tx l) t1]) Q E s := by
  refine left_ok w B F X T hk C27 (sub_right N) hT hd hu hlen hdg hnsz hns hw fun q h' tk' tb' g' dr ys E' hq N' I' T' O' _ D' G' => ?_
  obtain ⟨F9, N9, S9⟩ := use_front F N hs E' O'
  have Nq : News h₀ L h' ((q, LCg.lst ys) :: (front ++ tb')) := fun p hp => by
    rcases List.mem_cons.mp hp with rfl | hp
    · exact N' _ (.head _)
    · rcases List.mem_append.mp hp with hp | hp
      · exact N9 p hp
      · exact N' p (.tail _ hp)
  exact hret q h' tk' tb' g' dr ys F9 Nq I' T' (sep_cons (fun p hp => Ne.symm (D' p hp)) S9) (ne_new (sub_left N) hq) G'
end Mine
end
section -- Ph10
open PySem PySem.Spec PySem.Calls PySem.W PyProof.Rows
namespace Mine
theorem clear_Ph10 : True := by
  k_with_none
  w_top off
  exact True.intro

local macro_rules | `(tactic| k_all) => `(tactic| assumption)
local macro_rules | `(tactic| walk_at "call ref") => `(tactic| k_dflt (k_extra "my call"))
local macro_rules | `(tactic| walk_at "binaryOp Add str str") => `(tactic| k_extra "my add")
theorem ph10 (w : World) {mean : ExcName → Option Value} {mg mb : Str → Option Value} {fa : Addr} {cd : Value} {h₀ : Heap} {L : Addr} {m : Str → Option Value} {s : Shared} {rest : List Stmt} {Q : Flow → Shared → Prop} {E : Value → Shared → Prop}
    (B : Below callerA h₀ [] h₀) (F : Fr h₀ L s.heap m) (X : (Mine.hd.heap_39 w.params).In h₀) (T : Top topProg Mine.loose39 mean mg mb h₀) (C28 : CodeHd h₀ 28 24) (C63 : CodeHd h₀ 63 59) (C56 : CodeHd h₀ 56 52) {l : List Nat} {ns0 ns1 : List Int} {t : Tok} {FR tb : List (Addr × Obj)} (e1 : m (Str.ofString "line") = some (.str (tx l) t)) (hT : Tabs tb) (hS : Sep FR tb)
    (hlen : l.length ≤ 890) (hdg : ∀ c ∈ l, c = 32 ∨ c = 34 ∨ (48 ≤ c ∧ c ≤ 57)) (hn0 : ∀ n ∈ ns0, 0 ≤ n ∧ n < 10 ^ 10) (hn1 : ∀ n ∈ ns1, 0 ≤ n ∧ n < 10 ^ 10) (hz0 : ns0.length ≤ 16) (hz1 : ns1.length ≤ 16)
    (hw0 : Txt.words (tx (unq false (closeL l))) = ns0.map (fun n => Str.ofString (toString n))) (hw1 : Txt.words (tx (unq false (closeL (34 :: l)))) = ns1.map (fun n => Str.ofString (toString n)))
    (N : News h₀ L s.heap (FR ++ tb))
    (next : ∀ s' m' R q0 q1 xs0 xs1 tb', Same s s' → Fr h₀ L s'.heap m' → Agree [(Str.ofString "rows")] m' m → m' (Str.ofString "rows") = some (.ref R) → IntsAre xs0 ns0 → IntsAre xs1 ns1 → Tabs tb' → Sep FR tb' →
      News h₀ L s'.heap ((R, W.listOf #[.ref q0, .ref q1] 0) :: (q1, LCg.lst xs1) :: (q0, LCg.lst xs0) :: (FR ++ tb')) → wpAny (model (PySem.Challenge.rw_ul0012_01).prog w) (callerA.deeper (envOfC (Str.ofString "law") lawSc L fa cd)) (execs rest (envOfC (Str.ofString "law") lawSc L fa cd)) Q E s') : wpAny (model (PySem.Challenge.rw_ul0012_01).prog w) (callerA.deeper (envOfC (Str.ofString "law") lawSc L fa cd)) (execs (lawAt 10 :: rest) (envOfC (Str.ofString "law") lawSc L fa cd)) Q E s := by
  conv in lawAt 10 => whnf
  conv in (occs := *) lawSc => all_goals whnf
  revert X; k_fill; intro X
  have F0 := fr_put (Str.ofString "line") F e1
  clear F
  have hd1 : ∀ c ∈ 34 :: l, c = 32 ∨ c = 34 ∨ (48 ≤ c ∧ c ≤ 57) := fun c hc => by
    rcases List.mem_cons.mp hc with rfl | hc
    · exact .inr (.inl rfl)
    · exact hdg c hc
  have hl1 : (34 :: l).length ≤ 900 := by rw [List.length_cons]; omega
  have hl0 : l.length ≤ 900 := by omega
  have hs0 : ns0.length ≤ sizeLine := by rw [PySem.sizeLine_eq]; omega
  have hs1 : ns1.length ≤ sizeLine := by rw [PySem.sizeLine_eq]; omega
  k_with "my add" => (refine' add_txS ?oz ?oa ?ob ?_; (case oz => with_reducible exact ofs_quote); (case oa => exact rfl); (case ob => (simp only [List.length_cons, List.length_nil]; omega)); intro t8 k8)
  k_with "my call" => (refine' left_use w (front := FR) ?b1 ?b2 ?b3 ?b4 ?b5 C28 N hT hS ?a5 ?a6 hl0 hdg hs0 hn0 hw0 ?_; (case b1 => k_asm); (case b2 => k_asm); (case b3 => k_asm); (case b4 => k_asm); (case b5 => exact rfl); (case a5 => decide); (case a6 => decide); intro q9 h9 tk9 tb9 g9 dr9 ys9 F9 N9 I9 T9 S9 D9 G9; (try dsimp only); (try k_fold))
  k_with "my call" => (refine' left_use w (front := (q9, LCg.lst ys9) :: FR) ?b1 ?b2 ?b3 ?b4 ?b5 C28 ?nn T9 S9 ?a5 ?a6 hl1 hd1 hs1 hn1 hw1 ?_; (case b1 => k_asm); (case b2 => k_asm); (case b3 => k_asm); (case b4 => k_asm); (case b5 => exact rfl); (case nn => k_asm); (case a5 => decide); (case a6 => decide); intro q7 h7 tk7 tb7 g7 dr7 ys7 F7 N7 I7 T7 S7 D7 G7; (try dsimp only [List.cons_append] at N7); (try dsimp only); (try k_fold))
  k_steps
  rename_i R h5 lR h6 F5 N5
  exact next _ _ R q9 q7 ys9 ys7 tb7 ⟨rfl, fun h => G7 (G9 h)⟩ F5 (.put (.same .refl e1) (.head _)) rfl I9 I7 T7 (sep_tail (sep_tail S7)) N5
end Mine
end
section -- Ph11
open PySem PySem.Spec PySem.Calls PySem.W PyProof.Rows
namespace Mine
theorem clear_Ph11 : True := by
  k_with_none
  w_top off
  exact True.intro

local macro_rules | `(tactic| k_all) => `(tactic| assumption)
theorem ph11 (w : World) {mean : ExcName → Option Value} {mg mb : Str → Option Value} {fa : Addr} {cd : Value} {h₀ : Heap} {L : Addr} {m : Str → Option Value} {s : Shared} {rest : List Stmt} {Q : Flow → Shared → Prop} {E : Value → Shared → Prop}
    (B : Below callerA h₀ [] h₀) (F : Fr h₀ L s.heap m) (X : (Mine.hd.heap_39 w.params).In h₀) (T : Top topProg Mine.loose39 mean mg mb h₀) (C28 : CodeHd h₀ 28 24) (C63 : CodeHd h₀ 63 59) (C56 : CodeHd h₀ 56 52) {D : Addr} {ys : List Value} {kD : Nat} {ds : List Int} {S : List (Addr × Obj)} (e1 : m (Str.ofString "distances") = some (.ref D)) (hy : IntsAre ys ds) (h0 : 0 ≤ ds.sum) (h1 : ds.sum ≤ 20) (hy4 : ys.length ≤ 4)
    (N : News h₀ L s.heap ((D, W.listOf ys.toArray kD) :: S))
    (next : ∀ s' m' dg xs, Same s s' → Fr h₀ L s'.heap m' → Agree [(Str.ofString "digits")] m' m → m' (Str.ofString "digits") = some (.ref dg) → IntsAre xs (List.replicate (1 + ds.sum).toNat 0) → (∀ p ∈ (D, W.listOf ys.toArray kD) :: S, p.1 ≠ dg) →
      News h₀ L s'.heap ((dg, W.listOf xs.toArray 0) :: (D, W.listOf ys.toArray kD) :: S) → wpAny (model (PySem.Challenge.rw_ul0012_01).prog w) (callerA.deeper (envOfC (Str.ofString "law") lawSc L fa cd)) (execs rest (envOfC (Str.ofString "law") lawSc L fa cd)) Q E s') : wpAny (model (PySem.Challenge.rw_ul0012_01).prog w) (callerA.deeper (envOfC (Str.ofString "law") lawSc L fa cd)) (execs (lawAt 11 :: rest) (envOfC (Str.ofString "law") lawSc L fa cd)) Q E s := by
  conv in lawAt 11 => whnf
  conv in (occs := *) lawSc => all_goals whnf
  revert X; k_fill; intro X
  have F0 := fr_put (Str.ofString "distances") F e1
  clear F
  k_steps
  rename_i la h2 q1 h3 tk3 t3 dg h4 i1 n1 s1 e1' e2' e3' lD h5 F5 N5
  have hf : (List.replicate (1 + ds.sum).toNat [(0 : Int)]).flatten = List.replicate (1 + ds.sum).toNat 0 := by simp
  rw [hf] at i1
  have lD' : AllLt dg ((la, W.listOf #[Value.int 0 s.toks] 0) :: (D, W.listOf ys.toArray kD) :: S) := lD
  exact next _ _ dg _ ⟨rfl, fun h => h⟩ F5 (.put (.same .refl e1) (.head _)) rfl i1 (fun p hp => Nat.ne_of_lt (ktn_ltOf lD' p (.tail _ hp))) (fun p hp => by
    rcases List.mem_cons.mp hp with rfl | hp
    · exact N5 _ (.head _)
    · exact N5 p (.tail _ (.tail _ hp)))
end Mine
end
section -- Ph12a0
open PySem PySem.Spec PySem.Calls PySem.W PyProof.Rows
namespace Mine
theorem clear_Ph12a0 : True := by
  k_with_none
  w_top off
  exact True.intro

local macro_rules | `(tactic| k_all) => `(tactic| assumption)
local macro_rules | `(tactic| walk_at "eval Name") => `(tactic| ((with_reducible show wpAny _ _ (eval (Expr.Name _ _) (compEnvC _ _ _ _)) _ _ _); k_dflt (refine' LCgL.ld_built ?q1 ?q2 ?q3 ?q4 ?q5 ?q6 ?_; (case q1 => k_asm); (case q2 => k_asm); (case q3 => k_asm); (case q4 => k_is); (case q5 => boot_by_name); (case q6 => decide))))
local macro_rules | `(tactic| walk_at "pyIter ref") => `(tactic| fail "mine")
local macro_rules | `(tactic| walk_at "eval ListComp") => `(tactic| k_dflt (refine compEval (by k_asm) (by with_unfolding_all rfl) (by decide) (by rfl) (by decide) (by rfl) ?_))
theorem ph12a0 (w : World) {mean : ExcName → Option Value} {mg mb : Str → Option Value} {fa : Addr} {cd : Value} {h₀ : Heap} {L : Addr} {m : Str → Option Value} {s : Shared} {rest : List Stmt} {Q : Flow → Shared → Prop} {E : Value → Shared → Prop}
    (B : Below callerA h₀ [] h₀) (F : Fr h₀ L s.heap m) (X : (Mine.hd.heap_39 w.params).In h₀) (T : Top topProg Mine.loose39 mean mg mb h₀) (C28 : CodeHd h₀ 28 24) (C63 : CodeHd h₀ 63 59) (C56 : CodeHd h₀ 56 52) {R q0 q1 ol nl : Addr} {xs0 xs1 ws zs : List Value} {kz : Nat} {ns0 ns1 os nums : List Int} {oN oO c2 : Obj} {ti : Tok} {S : List (Addr × Obj)} (e1 : m (Str.ofString "rows") = some (.ref R)) (hz : IntsAre zs nums) (ho : IntsAre ws os) (hx0 : IntsAre xs0 ns0) (hx1 : IntsAre xs1 ns1) (h16 : nums.length ≤ 16) (hol : os.length = nums.length)
    (dN : oN.data = .cell (some (.ref nl))) (dO : oO.data = .cell (some (.ref ol))) (dS : c2.data = .cell (some (.int 0 ti))) (hsel : ns0 = selI nums os 0 nums.length)
    (N : News h₀ L s.heap ((R, W.listOf #[.ref q0, .ref q1] 0) :: (q1, LCg.lst xs1) :: (q0, LCg.lst xs0) :: (ol, LCg.lst ws) :: (nl, W.listOf zs.toArray kz) :: (L + 1, oN) :: (L + 1 + 1 + 1, oO) :: (L + 1 + 1 + 1 + 1, c2) :: S))
    (next : ∀ s', Same s s' → Fr h₀ L s'.heap m → News h₀ L s'.heap ((R, W.listOf #[.ref q0, .ref q1] 0) :: (q1, LCg.lst xs1) :: (q0, LCg.lst xs0) :: (ol, LCg.lst ws) :: (nl, W.listOf zs.toArray kz) :: (L + 1, oN) :: (L + 1 + 1 + 1, oO) :: (L + 1 + 1 + 1 + 1, c2) :: S) → wpAny (model (PySem.Challenge.rw_ul0012_01).prog w) (callerA.deeper (envOfC (Str.ofString "law") lawSc L fa cd)) (execs rest (envOfC (Str.ofString "law") lawSc L fa cd)) Q E s') : wpAny (model (PySem.Challenge.rw_ul0012_01).prog w) (callerA.deeper (envOfC (Str.ofString "law") lawSc L fa cd)) (execs (forAt 12 0 :: rest) (envOfC (Str.ofString "law") lawSc L fa cd)) Q E s := by
  conv in forAt 12 0 => whnf
  conv in (occs := *) lawSc => all_goals whnf
  revert X; k_fill; intro X
  have F0 := fr_put (Str.ofString "rows") F e1
  clear F
  have hzl := hz.length
  have howl := ho.length
  k_steps
  rename_i h6 tk6 t6 u6 v6 R6 F7 N7 _
  have hsz : Builtin.Range.rangeSize 0 (nums.length : Int) 1 = ((nums.length : Nat) : Int) := by rw [rangeSize_one]; split <;> omega
  have hsm : Builtin.Range.small 0 (nums.length : Int) 1 = true := small_one (by decide) (by decide) (by omega) (by omega)
  refine pyIter_rangeN F7 N7 R6 hsm fun I h8 F8 N8 lI => ?_
  rw [hsz] at N8
  have hIt := fun p hp => Nat.ne_of_lt (ktn_ltOf lI p hp)
  clear lI
  obtain ⟨SS, hSS⟩ : ∃ SS, SS = (R, W.listOf #[.ref q0, .ref q1] 0) :: (q1, LCg.lst xs1) :: (q0, LCg.lst xs0) :: (ol, LCg.lst ws) :: (nl, W.listOf zs.toArray kz) :: (L + 1, oN) :: (L + 1 + 1 + 1, oO) :: (L + 1 + 1 + 1 + 1, c2) :: S := ⟨_, rfl⟩
  rw [← hSS] at N8 hIt
  refine ⟨I, _, _, _, _, _, _, _, fun i ys nw => nw = SS ∧ IntsAre ys (selI nums os 0 i), rfl, CompOK.range (n := nums.length) rfl rfl ?_ F8 N8 hIt ⟨rfl, .nil⟩ ?_ ?_, ?_⟩
  · rw [PySem.sizeLine_eq]; omega
  · rintro i ys nw ⟨_, h⟩
    rw [h.length]; exact selI_len _ _ _ _
  · rintro i t oI C oC D2 ys2 nw m₂ h tk dr E' hi ⟨rfl, hys⟩ hoC hm2 F₃ N₃ ap
    rw [show (0 : Int) + (i : Nat) = ((i : Nat) : Int) by omega] at hm2
    refine wpAny_tests_one ?_
    have hos : os[i]? = some (os.getD i 0) := by rw [List.getD_eq_getElem?_getD, List.getElem?_eq_getElem (by omega)]; rfl
    rw [hSS] at N₃
    k_steps
    · rename Fr _ _ _ _ => kF; rename News _ _ _ _ => kN
      rename os.getD (i : Int).toNat 0 = 0 => hk
      rw [Int.toNat_natCast] at hk ⊢
      rw [← hSS] at kN
      refine ⟨_, _, _, nw, rfl, kF, kN, ap, rfl, ?_⟩
      rw [selI_yes hk]
      exact ints_app hys (ints_one _ _)
    · rename Fr _ _ _ _ => kF; rename News _ _ _ _ => kN
      rename os.getD (i : Int).toNat 0 ≠ 0 => hk
      rw [Int.toNat_natCast] at hk
      rw [← hSS] at kN
      refine ⟨_, _, _, nw, rfl, kF, kN, ap, rfl, ?_⟩
      rw [selI_no hk]
      exact hys
  · rintro D2 h tk dr ys2 nw ⟨rfl, hys⟩ F' N' hap
    rw [← hsel] at hys
    rw [hSS] at N' hap
    k_steps
    rename Fr _ _ _ _ => kF; rename News _ _ _ _ => kN
    rw [put_same e1] at kF
    exact next _ ⟨rfl, fun h => h⟩ kF fun p hp => kN p (.tail _ hp)
end Mine
end
section -- Ph12a1
open PySem PySem.Spec PySem.Calls PySem.W PyProof.Rows
namespace Mine
local macro_rules | `(tactic| walk_at "none") => `(tactic| fail "none")
theorem clear_Ph12a1 : True := by
  k_with_none
  w_top off
  exact True.intro

local macro_rules | `(tactic| k_all) => `(tactic| assumption)
local macro_rules | `(tactic| walk_at "eval Name") => `(tactic| ((with_reducible show wpAny _ _ (eval (Expr.Name _ _) (compEnvC _ _ _ _)) _ _ _); k_dflt (refine' LCgL.ld_built ?q1 ?q2 ?q3 ?q4 ?q5 ?q6 ?_; (case q1 => k_asm); (case q2 => k_asm); (case q3 => k_asm); (case q4 => k_is); (case q5 => boot_by_name); (case q6 => decide))))
local macro_rules | `(tactic| walk_at "pyIter ref") => `(tactic| fail "mine")
local macro_rules | `(tactic| walk_at "eval ListComp") => `(tactic| k_dflt (refine compEval (by k_asm) (by with_unfolding_all rfl) (by decide) (by rfl) (by decide) (by rfl) ?_))
theorem ph12a1 (w : World) {mean : ExcName → Option Value} {mg mb : Str → Option Value} {fa : Addr} {cd : Value} {h₀ : Heap} {L : Addr} {m : Str → Option Value} {s : Shared} {rest : List Stmt} {Q : Flow → Shared → Prop} {E : Value → Shared → Prop}
    (B : Below callerA h₀ [] h₀) (F : Fr h₀ L s.heap m) (X : (Mine.hd.heap_39 w.params).In h₀) (T : Top topProg Mine.loose39 mean mg mb h₀) (C28 : CodeHd h₀ 28 24) (C63 : CodeHd h₀ 63 59) (C56 : CodeHd h₀ 56 52) {R q0 q1 ol nl : Addr} {xs0 xs1 ws zs : List Value} {kz : Nat} {ns0 ns1 os nums : List Int} {oN oO c2 : Obj} {ti : Tok} {S : List (Addr × Obj)} (e1 : m (Str.ofString "rows") = some (.ref R)) (hz : IntsAre zs nums) (ho : IntsAre ws os) (hx0 : IntsAre xs0 ns0) (hx1 : IntsAre xs1 ns1) (h16 : nums.length ≤ 16) (hol : os.length = nums.length)
    (dN : oN.data = .cell (some (.ref nl))) (dO : oO.data = .cell (some (.ref ol))) (dS : c2.data = .cell (some (.int 1 ti))) (hsel : ns1 = selI nums os 1 nums.length)
    (N : News h₀ L s.heap ((R, W.listOf #[.ref q0, .ref q1] 0) :: (q1, LCg.lst xs1) :: (q0, LCg.lst xs0) :: (ol, LCg.lst ws) :: (nl, W.listOf zs.toArray kz) :: (L + 1, oN) :: (L + 1 + 1 + 1, oO) :: (L + 1 + 1 + 1 + 1, c2) :: S))
    (next : ∀ s', Same s s' → Fr h₀ L s'.heap m → News h₀ L s'.heap ((R, W.listOf #[.ref q0, .ref q1] 0) :: (q1, LCg.lst xs1) :: (q0, LCg.lst xs0) :: (ol, LCg.lst ws) :: (nl, W.listOf zs.toArray kz) :: (L + 1, oN) :: (L + 1 + 1 + 1, oO) :: (L + 1 + 1 + 1 + 1, c2) :: S) → wpAny (model (PySem.Challenge.rw_ul0012_01).prog w) (callerA.deeper (envOfC (Str.ofString "law") lawSc L fa cd)) (execs rest (envOfC (Str.ofString "law") lawSc L fa cd)) Q E s') : wpAny (model (PySem.Challenge.rw_ul0012_01).prog w) (callerA.deeper (envOfC (Str.ofString "law") lawSc L fa cd)) (execs (forAt 12 0 :: rest) (envOfC (Str.ofString "law") lawSc L fa cd)) Q E s := by
  conv in forAt 12 0 => whnf
  conv in (occs := *) lawSc => all_goals whnf
  revert X; k_fill; intro X
  have F0 := fr_put (Str.ofString "rows") F e1
  clear F
  have hzl := hz.length
  have howl := ho.length
  k_steps
  rename_i h6 tk6 t6 u6 v6 R6 F7 N7 _
  have hsz : Builtin.Range.rangeSize 0 (nums.length : Int) 1 = ((nums.length : Nat) : Int) := by rw [rangeSize_one]; split <;> omega
  have hsm : Builtin.Range.small 0 (nums.length : Int) 1 = true := small_one (by decide) (by decide) (by omega) (by omega)
  refine pyIter_rangeN F7 N7 R6 hsm fun I h8 F8 N8 lI => ?_
  rw [hsz] at N8
  have hIt := fun p hp => Nat.ne_of_lt (ktn_ltOf lI p hp)
  clear lI
  obtain ⟨SS, hSS⟩ : ∃ SS, SS = (R, W.listOf #[.ref q0, .ref q1] 0) :: (q1, LCg.lst xs1) :: (q0, LCg.lst xs0) :: (ol, LCg.lst ws) :: (nl, W.listOf zs.toArray kz) :: (L + 1, oN) :: (L + 1 + 1 + 1, oO) :: (L + 1 + 1 + 1 + 1, c2) :: S := ⟨_, rfl⟩
  rw [← hSS] at N8 hIt
  refine ⟨I, _, _, _, _, _, _, _, fun i ys nw => nw = SS ∧ IntsAre ys (selI nums os 1 i), rfl, CompOK.range (n := nums.length) rfl rfl ?_ F8 N8 hIt ⟨rfl, .nil⟩ ?_ ?_, ?_⟩
  · rw [PySem.sizeLine_eq]; omega
  · rintro i ys nw ⟨_, h⟩
    rw [h.length]; exact selI_len _ _ _ _
  · rintro i t oI C oC D2 ys2 nw m₂ h tk dr E' hi ⟨rfl, hys⟩ hoC hm2 F₃ N₃ ap
    rw [show (0 : Int) + (i : Nat) = ((i : Nat) : Int) by omega] at hm2
    refine wpAny_tests_one ?_
    have hos : os[i]? = some (os.getD i 0) := by rw [List.getD_eq_getElem?_getD, List.getElem?_eq_getElem (by omega)]; rfl
    rw [hSS] at N₃
    k_steps
    · rename Fr _ _ _ _ => kF; rename News _ _ _ _ => kN
      rename os.getD (i : Int).toNat 0 = 1 => hk
      rw [Int.toNat_natCast] at hk ⊢
      rw [← hSS] at kN
      refine ⟨_, _, _, nw, rfl, kF, kN, ap, rfl, ?_⟩
      rw [selI_yes hk]
      exact ints_app hys (ints_one _ _)
    · rename Fr _ _ _ _ => kF; rename News _ _ _ _ => kN
      rename os.getD (i : Int).toNat 0 ≠ 1 => hk
      rw [Int.toNat_natCast] at hk
      rw [← hSS] at kN
      refine ⟨_, _, _, nw, rfl, kF, kN, ap, rfl, ?_⟩
      rw [selI_no hk]
      exact hys
  · rintro D2 h tk dr ys2 nw ⟨rfl, hys⟩ F' N' hap
    rw [← hsel] at hys
    rw [hSS] at N' hap
    k_steps
    rename Fr _ _ _ _ => kF; rename News _ _ _ _ => kN
    rw [put_same e1] at kF
    exact next _ ⟨rfl, fun h => h⟩ kF fun p hp => kN p (.tail _ hp)
end Mine
end
section -- Ph12b0
open PySem PySem.Spec PySem.Calls PySem.W PyProof.Rows
namespace Mine
theorem clear_Ph12b0 : True := by
  k_with_none
  w_top off
  exact True.intro

local macro_rules | `(tactic| k_all) => `(tactic| assumption)
local macro_rules | `(tactic| walk_at "pyIter ref") => `(tactic| fail "mine")
local macro_rules | `(tactic| walk_at "exec For Name Subscript cons nil") => `(tactic| k_dflt (refine wpAny_For ?_))
theorem ph12b0 (w : World) {mean : ExcName → Option Value} {mg mb : Str → Option Value} {fa : Addr} {cd : Value} {h₀ : Heap} {L : Addr} {m : Str → Option Value} {s : Shared} {rest : List Stmt} {Q : Flow → Shared → Prop} {E : Value → Shared → Prop}
    (B : Below callerA h₀ [] h₀) (F : Fr h₀ L s.heap m) (X : (Mine.hd.heap_39 w.params).In h₀) (T : Top topProg Mine.loose39 mean mg mb h₀) (C28 : CodeHd h₀ 28 24) (C63 : CodeHd h₀ 63 59) (C56 : CodeHd h₀ 56 52) {R q0 q1 dg : Addr} {xs0 xs1 vs : List Value} {kd : Nat} {ns0 ns1 dd : List Int} {st : Int} {ts ti : Tok} {c2 : Obj} {S : List (Addr × Obj)} (e1 : m (Str.ofString "rows") = some (.ref R)) (e2 : m (Str.ofString "start") = some (.int st ts)) (e3 : m (Str.ofString "digits") = some (.ref dg)) (hv : IntsAre vs dd) (hx0 : IntsAre xs0 ns0) (hx1 : IntsAre xs1 ns1) (hl0 : ns0.length ≤ 16) (hl1 : ns1.length ≤ 16)
    (dS : c2.data = .cell (some (.int 0 ti))) (hb : ∀ n ∈ ns0, 0 ≤ n - st ∧ n - st < dd.length) (hdl : dd.length ≤ 100)
    (hR : @Ne Nat R dg) (hq1 : @Ne Nat q1 dg) (hq0 : @Ne Nat q0 dg) (hc : @Ne Nat (L + 1 + 1 + 1 + 1) dg) (hSd : ∀ p ∈ S, p.1 ≠ dg)
    (N : News h₀ L s.heap ((dg, W.listOf vs.toArray kd) :: (R, W.listOf #[.ref q0, .ref q1] 0) :: (q1, LCg.lst xs1) :: (q0, LCg.lst xs0) :: (L + 1 + 1 + 1 + 1, c2) :: S))
    (next : ∀ s' m' vs', Same s s' → Fr h₀ L s'.heap m' → Agree [(Str.ofString "n")] m' m → IntsAre vs' (digF st 0 dd ns0) → News h₀ L s'.heap ((dg, W.listOf vs'.toArray kd) :: (R, W.listOf #[.ref q0, .ref q1] 0) :: (q1, LCg.lst xs1) :: (q0, LCg.lst xs0) :: (L + 1 + 1 + 1 + 1, c2) :: S) → wpAny (model (PySem.Challenge.rw_ul0012_01).prog w) (callerA.deeper (envOfC (Str.ofString "law") lawSc L fa cd)) (execs rest (envOfC (Str.ofString "law") lawSc L fa cd)) Q E s') : wpAny (model (PySem.Challenge.rw_ul0012_01).prog w) (callerA.deeper (envOfC (Str.ofString "law") lawSc L fa cd)) (execs (forAt 12 1 :: rest) (envOfC (Str.ofString "law") lawSc L fa cd)) Q E s := by
  conv in forAt 12 1 => whnf
  conv in (occs := *) lawSc => all_goals whnf
  revert X; k_fill; intro X
  have F0 := fr_put (Str.ofString "digits") (fr_put (Str.ofString "start") (fr_put (Str.ofString "rows") F e1) e2) e3
  clear F
  have hx0l := hx0.length
  have hx1l := hx1.length
  have hvl := hv.length
  k_steps
  have hmem : (q0, LCg.lst xs0) ∈ ((dg, W.listOf vs.toArray kd) :: (R, W.listOf #[.ref q0, .ref q1] 0) :: (q1, LCg.lst xs1) :: (q0, LCg.lst xs0) :: (L + 1 + 1 + 1 + 1, c2) :: S) := .tail _ (.tail _ (.tail _ (.head _)))
  refine pyIter_listN F0 N (PySem.IsL.isList (n := xs0.length) (N _ hmem).1) fun I h7 F7 N7 lI => ?_
  have hIt := fun p hp => Nat.ne_of_lt (ktn_ltOf lI p hp)
  have hqI : q0 ≠ I := hIt _ hmem
  clear lI
  generalize hm0 : (fun y => if y = (Str.ofString "digits") then some (Value.ref dg) else if y = (Str.ofString "start") then some (Value.int st ts) else if y = (Str.ofString "rows") then some (Value.ref R) else m y) = m0 at *
  have hA0 : Agree [(Str.ofString "n")] m0 m := by rw [← hm0]; exact .same (.same (.same .refl e1) e2) e3
  refine forListS (l := q0) (vs := xs0) (ol := LCg.lst xs0) rfl hqI (fun j m₁ nw => Agree [(Str.ofString "n")] m₁ m ∧ ∃ us, nw = (dg, W.listOf us.toArray kd) :: (R, W.listOf #[.ref q0, .ref q1] 0) :: (q1, LCg.lst xs1) :: (q0, LCg.lst xs0) :: (L + 1 + 1 + 1 + 1, c2) :: S ∧ IntsAre us (digF st 0 dd (ns0.take j))) ⟨rfl, _, rfl⟩ ?_ F7 N7 hIt ⟨hA0, vs, rfl, hv⟩ ?_ ?_
  · rintro j m₁ nw ⟨_, us, rfl, _⟩; exact .inl (.tail _ (.tail _ (.tail _ (.head _))))
  · rintro j v m₁ nw s₁ o hj hvj ⟨hA, us, rfl, hus⟩ hI hsm F₁ N₁
    obtain ⟨x, hx⟩ : ∃ x, ns0[j]? = some x := ⟨_, List.getElem?_eq_getElem (by omega)⟩
    obtain ⟨tx, htx⟩ := hx0.get j x hx
    rw [htx] at hvj
    obtain rfl := Option.some.inj hvj
    have F₂ := fr_put (Str.ofString "digits") (fr_put (Str.ofString "start") (fr_put (Str.ofString "rows") F₁ (hA.get _ e1 (by decide))) (hA.get _ e2 (by decide))) (hA.get _ e3 (by decide))
    clear F₁ F0 F7 N7 N
    obtain ⟨g0, g1⟩ := hb x (List.mem_of_getElem? hx)
    have hul : us.length = dd.length := by rw [hus.length, digF_len]
    simp only [List.forall_mem_cons] at hI
    obtain ⟨i1, i2, i3, i4, i5, i6⟩ := hI
    replace i1 := neN i1; replace i2 := neN i2; replace i3 := neN i3; replace i4 := neN i4; replace i5 := neN i5
    k_steps
    rename Fr _ _ _ _ => kF; rename News _ _ _ _ => kN; rename IntsAre _ _ => kI
    refine TurnS.intro ⟨hsm.1, hsm.2⟩ kF kN ?_ ⟨.put (.same (.same (.same hA e1) e2) e3) (.head _), _, rfl, ?_⟩
    · simp only [List.forall_mem_cons]
      exact ⟨i1, i2, i3, i4, i5, i6⟩
    · rw [digF_take hx]; exact kI
  · rintro m₁ nw s₁ ⟨hA, us, rfl, hus⟩ hsm F₁ N₁
    rw [hx0l, List.take_length] at hus
    exact next s₁ m₁ us hsm F₁ hA hus N₁
end Mine
end
section -- Ph12b1
open PySem PySem.Spec PySem.Calls PySem.W PyProof.Rows
namespace Mine
local macro_rules | `(tactic| walk_at "none") => `(tactic| fail "none")
theorem clear_Ph12b1 : True := by
  k_with_none
  w_top off
  exact True.intro

local macro_rules | `(tactic| k_all) => `(tactic| assumption)
local macro_rules | `(tactic| walk_at "pyIter ref") => `(tactic| fail "mine")
local macro_rules | `(tactic| walk_at "exec For Name Subscript cons nil") => `(tactic| k_dflt (refine wpAny_For ?_))
theorem ph12b1 (w : World) {mean : ExcName → Option Value} {mg mb : Str → Option Value} {fa : Addr} {cd : Value} {h₀ : Heap} {L : Addr} {m : Str → Option Value} {s : Shared} {rest : List Stmt} {Q : Flow → Shared → Prop} {E : Value → Shared → Prop}
    (B : Below callerA h₀ [] h₀) (F : Fr h₀ L s.heap m) (X : (Mine.hd.heap_39 w.params).In h₀) (T : Top topProg Mine.loose39 mean mg mb h₀) (C28 : CodeHd h₀ 28 24) (C63 : CodeHd h₀ 63 59) (C56 : CodeHd h₀ 56 52) {R q0 q1 dg : Addr} {xs0 xs1 vs : List Value} {kd : Nat} {ns0 ns1 dd : List Int} {st : Int} {ts ti : Tok} {c2 : Obj} {S : List (Addr × Obj)} (e1 : m (Str.ofString "rows") = some (.ref R)) (e2 : m (Str.ofString "start") = some (.int st ts)) (e3 : m (Str.ofString "digits") = some (.ref dg)) (hv : IntsAre vs dd) (hx0 : IntsAre xs0 ns0) (hx1 : IntsAre xs1 ns1) (hl0 : ns0.length ≤ 16) (hl1 : ns1.length ≤ 16)
    (dS : c2.data = .cell (some (.int 1 ti))) (hb : ∀ n ∈ ns1, 0 ≤ n - st ∧ n - st < dd.length) (hdl : dd.length ≤ 100)
    (hR : @Ne Nat R dg) (hq1 : @Ne Nat q1 dg) (hq0 : @Ne Nat q0 dg) (hc : @Ne Nat (L + 1 + 1 + 1 + 1) dg) (hSd : ∀ p ∈ S, p.1 ≠ dg)
    (N : News h₀ L s.heap ((dg, W.listOf vs.toArray kd) :: (R, W.listOf #[.ref q0, .ref q1] 0) :: (q1, LCg.lst xs1) :: (q0, LCg.lst xs0) :: (L + 1 + 1 + 1 + 1, c2) :: S))
    (next : ∀ s' m' vs', Same s s' → Fr h₀ L s'.heap m' → Agree [(Str.ofString "n")] m' m → IntsAre vs' (digF st 1 dd ns1) → News h₀ L s'.heap ((dg, W.listOf vs'.toArray kd) :: (R, W.listOf #[.ref q0, .ref q1] 0) :: (q1, LCg.lst xs1) :: (q0, LCg.lst xs0) :: (L + 1 + 1 + 1 + 1, c2) :: S) → wpAny (model (PySem.Challenge.rw_ul0012_01).prog w) (callerA.deeper (envOfC (Str.ofString "law") lawSc L fa cd)) (execs rest (envOfC (Str.ofString "law") lawSc L fa cd)) Q E s') : wpAny (model (PySem.Challenge.rw_ul0012_01).prog w) (callerA.deeper (envOfC (Str.ofString "law") lawSc L fa cd)) (execs (forAt 12 1 :: rest) (envOfC (Str.ofString "law") lawSc L fa cd)) Q E s := by
  conv in forAt 12 1 => whnf
  conv in (occs := *) lawSc => all_goals whnf
  revert X; k_fill; intro X
  have F0 := fr_put (Str.ofString "digits") (fr_put (Str.ofString "start") (fr_put (Str.ofString "rows") F e1) e2) e3
  clear F
  have hx0l := hx0.length
  have hx1l := hx1.length
  have hvl := hv.length
  k_steps
  have hmem : (q1, LCg.lst xs1) ∈ ((dg, W.listOf vs.toArray kd) :: (R, W.listOf #[.ref q0, .ref q1] 0) :: (q1, LCg.lst xs1) :: (q0, LCg.lst xs0) :: (L + 1 + 1 + 1 + 1, c2) :: S) := .tail _ (.tail _ (.head _))
  refine pyIter_listN F0 N (PySem.IsL.isList (n := xs1.length) (N _ hmem).1) fun I h7 F7 N7 lI => ?_
  have hIt := fun p hp => Nat.ne_of_lt (ktn_ltOf lI p hp)
  have hqI : q1 ≠ I := hIt _ hmem
  clear lI
  generalize hm0 : (fun y => if y = (Str.ofString "digits") then some (Value.ref dg) else if y = (Str.ofString "start") then some (Value.int st ts) else if y = (Str.ofString "rows") then some (Value.ref R) else m y) = m0 at *
  have hA0 : Agree [(Str.ofString "n")] m0 m := by rw [← hm0]; exact .same (.same (.same .refl e1) e2) e3
  refine forListS (l := q1) (vs := xs1) (ol := LCg.lst xs1) rfl hqI (fun j m₁ nw => Agree [(Str.ofString "n")] m₁ m ∧ ∃ us, nw = (dg, W.listOf us.toArray kd) :: (R, W.listOf #[.ref q0, .ref q1] 0) :: (q1, LCg.lst xs1) :: (q0, LCg.lst xs0) :: (L + 1 + 1 + 1 + 1, c2) :: S ∧ IntsAre us (digF st 1 dd (ns1.take j))) ⟨rfl, _, rfl⟩ ?_ F7 N7 hIt ⟨hA0, vs, rfl, hv⟩ ?_ ?_
  · rintro j m₁ nw ⟨_, us, rfl, _⟩; exact .inl (.tail _ (.tail _ (.head _)))
  · rintro j v m₁ nw s₁ o hj hvj ⟨hA, us, rfl, hus⟩ hI hsm F₁ N₁
    obtain ⟨x, hx⟩ : ∃ x, ns1[j]? = some x := ⟨_, List.getElem?_eq_getElem (by omega)⟩
    obtain ⟨tx, htx⟩ := hx1.get j x hx
    rw [htx] at hvj
    obtain rfl := Option.some.inj hvj
    have F₂ := fr_put (Str.ofString "digits") (fr_put (Str.ofString "start") (fr_put (Str.ofString "rows") F₁ (hA.get _ e1 (by decide))) (hA.get _ e2 (by decide))) (hA.get _ e3 (by decide))
    clear F₁ F0 F7 N7 N
    obtain ⟨g0, g1⟩ := hb x (List.mem_of_getElem? hx)
    have hul : us.length = dd.length := by rw [hus.length, digF_len]
    simp only [List.forall_mem_cons] at hI
    obtain ⟨i1, i2, i3, i4, i5, i6⟩ := hI
    replace i1 := neN i1; replace i2 := neN i2; replace i3 := neN i3; replace i4 := neN i4; replace i5 := neN i5
    k_steps
    rename Fr _ _ _ _ => kF; rename News _ _ _ _ => kN; rename IntsAre _ _ => kI
    refine TurnS.intro ⟨hsm.1, hsm.2⟩ kF kN ?_ ⟨.put (.same (.same (.same hA e1) e2) e3) (.head _), _, rfl, ?_⟩
    · simp only [List.forall_mem_cons]
      exact ⟨i1, i2, i3, i4, i5, i6⟩
    · rw [digF_take hx]; exact kI
  · rintro m₁ nw s₁ ⟨hA, us, rfl, hus⟩ hsm F₁ N₁
    rw [hx1l, List.take_length] at hus
    exact next s₁ m₁ us hsm F₁ hA hus N₁
end Mine
end
section -- Ph12
open PySem PySem.Spec PySem.Calls PySem.W PyProof.Rows
namespace Mine
theorem clear_Ph12 : True := by
  k_with_none
  w_top off
  exact True.intro

local macro_rules | `(tactic| k_all) => `(tactic| assumption)
local macro_rules | `(tactic| walk_at "pyIter ref") => `(tactic| fail "mine")
local macro_rules | `(tactic| walk_at "exec For Name Call cons nil") => `(tactic| k_dflt (refine wpAny_For ?_))
theorem ph12 (w : World) {mean : ExcName → Option Value} {mg mb : Str → Option Value} {fa : Addr} {cd : Value} {h₀ : Heap} {L : Addr} {m : Str → Option Value} {s : Shared} {rest : List Stmt} {Q : Flow → Shared → Prop} {E : Value → Shared → Prop}
    (B : Below callerA h₀ [] h₀) (F : Fr h₀ L s.heap m) (X : (Mine.hd.heap_39 w.params).In h₀) (T : Top topProg Mine.loose39 mean mg mb h₀) (C28 : CodeHd h₀ 28 24) (C63 : CodeHd h₀ 63 59) (C56 : CodeHd h₀ 56 52) {R q0 q1 dg ol nl D : Addr} {xs0 xs1 ws zs ys vs : List Value} {kd kz kD : Nat} {ns0 ns1 dd os nums : List Int} {st : Int} {ts : Tok} {oN c4 oO c2 c1 : Obj} {tb : List (Addr × Obj)}
    (e1 : m (Str.ofString "rows") = some (.ref R)) (e2 : m (Str.ofString "start") = some (.int st ts)) (e3 : m (Str.ofString "digits") = some (.ref dg)) (hz : IntsAre zs nums) (ho : IntsAre ws os) (hv : IntsAre vs dd) (hx0 : IntsAre xs0 ns0) (hx1 : IntsAre xs1 ns1) (h16 : nums.length ≤ 16) (hol : os.length = nums.length)
    (dN : oN.data = .cell (some (.ref nl))) (dO : oO.data = .cell (some (.ref ol))) (hc2 : ∃ v, c2.data = .cell v) (hsel0 : ns0 = selI nums os 0 nums.length) (hsel1 : ns1 = selI nums os 1 nums.length)
    (hb0 : ∀ n ∈ ns0, 0 ≤ n - st ∧ n - st < dd.length) (hb1 : ∀ n ∈ ns1, 0 ≤ n - st ∧ n - st < dd.length) (hdl : dd.length ≤ 100) (hT : Tabs tb)
    (hdg : ∀ p ∈ (R, W.listOf #[.ref q0, .ref q1] 0) :: (q1, LCg.lst xs1) :: (q0, LCg.lst xs0) :: (ol, LCg.lst ws) :: (nl, W.listOf zs.toArray kz) :: (D, W.listOf ys.toArray kD) :: (L + 1, oN) :: (L + 1 + 1, c4) :: (L + 1 + 1 + 1, oO) :: (L + 1 + 1 + 1 + 1, c2) :: (L + 1 + 1 + 1 + 1 + 1, c1) :: tb, p.1 ≠ dg)
    (N : News h₀ L s.heap ((dg, W.listOf vs.toArray kd) :: (R, W.listOf #[.ref q0, .ref q1] 0) :: (q1, LCg.lst xs1) :: (q0, LCg.lst xs0) :: (ol, LCg.lst ws) :: (nl, W.listOf zs.toArray kz) :: (D, W.listOf ys.toArray kD) :: (L + 1, oN) :: (L + 1 + 1, c4) :: (L + 1 + 1 + 1, oO) :: (L + 1 + 1 + 1 + 1, c2) :: (L + 1 + 1 + 1 + 1 + 1, c1) :: tb))
    (next : ∀ s' m' vs' o2, Same s s' → Fr h₀ L s'.heap m' → Agree [(Str.ofString "n")] m' m → (∃ v, o2.data = .cell v) → IntsAre vs' (digF st 1 (digF st 0 dd ns0) ns1) → News h₀ L s'.heap ((dg, W.listOf vs'.toArray kd) :: (D, W.listOf ys.toArray kD) :: (L + 1, oN) :: (L + 1 + 1, c4) :: (L + 1 + 1 + 1, oO) :: (L + 1 + 1 + 1 + 1, o2) :: (L + 1 + 1 + 1 + 1 + 1, c1) :: tb) → wpAny (model (PySem.Challenge.rw_ul0012_01).prog w) (callerA.deeper (envOfC (Str.ofString "law") lawSc L fa cd)) (execs rest (envOfC (Str.ofString "law") lawSc L fa cd)) Q E s') : wpAny (model (PySem.Challenge.rw_ul0012_01).prog w) (callerA.deeper (envOfC (Str.ofString "law") lawSc L fa cd)) (execs (lawAt 12 :: rest) (envOfC (Str.ofString "law") lawSc L fa cd)) Q E s := by
  conv in lawAt 12 => whnf
  conv in (occs := *) lawSc => all_goals whnf
  revert X; k_fill; intro X
  have d1 := hdg _ (.head _)
  have d2 := hdg _ (.tail _ (.head _))
  have d3 := hdg _ (.tail _ (.tail _ (.head _)))
  have d10 := hdg _ (.tail _ (.tail _ (.tail _ (.tail _ (.tail _ (.tail _ (.tail _ (.tail _ (.tail _ (.head _))))))))))
  have hl0 : ns0.length ≤ 16 := by rw [hsel0]; exact Nat.le_trans (selI_len _ _ _ _) h16
  have hl1 : ns1.length ≤ 16 := by rw [hsel1]; exact Nat.le_trans (selI_len _ _ _ _) h16
  k_steps
  rename_i h6 tk6 t6 u6 v6 R6 F7 N7 _
  have hsm : Builtin.Range.small 0 2 1 = true := small_one (by decide) (by decide) (by omega) (by omega)
  refine pyIter_rangeN F7 N7 R6 hsm fun I h8 F8 N8 lI => ?_
  rw [show Builtin.Range.rangeSize 0 2 1 = ((2 : Nat) : Int) from by rw [rangeSize_one]; rfl] at N8
  have hIt := fun p hp => Nat.ne_of_lt (ktn_ltOf lI p hp)
  clear lI N7 F7
  refine forRangeS (n := 2) rfl rfl (fun i m₁ nw => Agree [(Str.ofString "n")] m₁ m ∧ ∃ us o2, nw = (dg, W.listOf us.toArray kd) :: (R, W.listOf #[.ref q0, .ref q1] 0) :: (q1, LCg.lst xs1) :: (q0, LCg.lst xs0) :: (ol, LCg.lst ws) :: (nl, W.listOf zs.toArray kz) :: (D, W.listOf ys.toArray kD) :: (L + 1, oN) :: (L + 1 + 1, c4) :: (L + 1 + 1 + 1, oO) :: (L + 1 + 1 + 1 + 1, o2) :: (L + 1 + 1 + 1 + 1 + 1, c1) :: tb ∧ (∃ v, o2.data = .cell v) ∧ IntsAre us (match i with | 0 => dd | 1 => digF st 0 dd ns0 | _ => digF st 1 (digF st 0 dd ns0) ns1)) F8 N8 hIt ⟨.refl, vs, c2, rfl, hc2, hv⟩ ?_ ?_
  · rintro i ti m₁ nw s₁ o hi ⟨hA, us, o2, rfl, ⟨vd, hod⟩, hus⟩ hI hsm₁ F₁ N₁
    have i1 := hI _ (.head _)
    have i11 := hI _ (.tail _ (.tail _ (.tail _ (.tail _ (.tail _ (.tail _ (.tail _ (.tail _ (.tail _ (.tail _ (.head _)))))))))))
    rcases i with _ | _ | i
    · obtain ⟨SS, hSS⟩ : ∃ SS, SS = (I, o) :: (dg, W.listOf us.toArray kd) :: (R, W.listOf #[.ref q0, .ref q1] 0) :: (q1, LCg.lst xs1) :: (q0, LCg.lst xs0) :: (ol, LCg.lst ws) :: (nl, W.listOf zs.toArray kz) :: (D, W.listOf ys.toArray kD) :: (L + 1, oN) :: (L + 1 + 1, c4) :: (L + 1 + 1 + 1, oO) :: (L + 1 + 1 + 1 + 1 + 1, c1) :: tb := ⟨_, rfl⟩
      have NS : News h₀ L s₁.heap ((L + 1 + 1 + 1 + 1, o2) :: SS) := by rw [hSS]; exact (sub_pk [11, 0, 1, 2, 3, 4, 5, 6, 7, 8, 9, 10, 12] 13 N₁)
      have b1 : ∀ p ∈ SS, p.1 ≠ L + 1 + 1 + 1 + 1 := off_cell NS hod (by
        rw [hSS]
        simp only [List.forall_mem_cons]
        exact ⟨.inr (Ne.symm i11), .inl rfl, .inl rfl, .inl rfl, .inl rfl, .inl rfl, .inl rfl, .inl rfl, .inr (neN (by omega)), .inr (neN (by omega)), .inr (neN (by omega)), .inr (neN (by omega)), hT.nocell⟩)
      clear N₁
      walk1
      walk1
      rename_i h9 o9 F9 N9 d9
      rw [hSS] at N9
      replace d9 : o9.data = .cell (some (.int 0 ti)) := d9
      refine ph12a0 w B F9 X T C28 C63 C56 (hA.get _ e1 (by decide)) hz ho hx0 hx1 h16 hol dN dO d9 hsel0 (sub_pk [3, 4, 5, 6, 7, 9, 11, 0, 1, 2, 8, 10, 12] 13 N9) ?_
      intro s₂ Sm₂ F₂ N₂
      refine ph12b0 w B F₂ X T C28 C63 C56 (dd := dd) (hA.get _ e1 (by decide)) (hA.get _ e2 (by decide)) (hA.get _ e3 (by decide)) hus hx0 hx1 hl0 hl1 d9 hb0 hdl d1 d2 d3 d10 ?_ (sub_pk [9, 0, 1, 2, 7, 8, 3, 4, 10, 5, 11, 6, 12] 13 N₂) ?_
      · exact List.forall_mem_cons.mpr ⟨Ne.symm i1, sub_pk [3, 4, 5, 6, 7, 8, 10] 11 hdg⟩
      intro s₃ m₃ us₃ Sm₃ F₃ A₃ I₃ N₃
      k_steps
      refine TurnS.intro (hsm₁.trans (Sm₂.trans Sm₃)) F₃ (sub_pk [5, 0, 1, 2, 3, 6, 7, 8, 9, 10, 11, 4, 12] 13 N₃) ?_ ⟨A₃.trans hA, us₃, o9, rfl, ⟨_, d9⟩, I₃⟩
      exact apart_map hI
    · obtain ⟨SS, hSS⟩ : ∃ SS, SS = (I, o) :: (dg, W.listOf us.toArray kd) :: (R, W.listOf #[.ref q0, .ref q1] 0) :: (q1, LCg.lst xs1) :: (q0, LCg.lst xs0) :: (ol, LCg.lst ws) :: (nl, W.listOf zs.toArray kz) :: (D, W.listOf ys.toArray kD) :: (L + 1, oN) :: (L + 1 + 1, c4) :: (L + 1 + 1 + 1, oO) :: (L + 1 + 1 + 1 + 1 + 1, c1) :: tb := ⟨_, rfl⟩
      have NS : News h₀ L s₁.heap ((L + 1 + 1 + 1 + 1, o2) :: SS) := by rw [hSS]; exact (sub_pk [11, 0, 1, 2, 3, 4, 5, 6, 7, 8, 9, 10, 12] 13 N₁)
      have b1 : ∀ p ∈ SS, p.1 ≠ L + 1 + 1 + 1 + 1 := off_cell NS hod (by
        rw [hSS]
        simp only [List.forall_mem_cons]
        exact ⟨.inr (Ne.symm i11), .inl rfl, .inl rfl, .inl rfl, .inl rfl, .inl rfl, .inl rfl, .inl rfl, .inr (neN (by omega)), .inr (neN (by omega)), .inr (neN (by omega)), .inr (neN (by omega)), hT.nocell⟩)
      clear N₁
      walk1
      walk1
      rename_i h9 o9 F9 N9 d9
      rw [hSS] at N9
      replace d9 : o9.data = .cell (some (.int 1 ti)) := d9
      refine ph12a1 w B F9 X T C28 C63 C56 (hA.get _ e1 (by decide)) hz ho hx0 hx1 h16 hol dN dO d9 hsel1 (sub_pk [3, 4, 5, 6, 7, 9, 11, 0, 1, 2, 8, 10, 12] 13 N9) ?_
      intro s₂ Sm₂ F₂ N₂
      refine ph12b1 w B F₂ X T C28 C63 C56 (dd := (digF st 0 dd ns0)) (hA.get _ e1 (by decide)) (hA.get _ e2 (by decide)) (hA.get _ e3 (by decide)) hus hx0 hx1 hl0 hl1 d9 (by rw [digF_len]; exact hb1) (by rw [digF_len]; exact hdl) d1 d2 d3 d10 ?_ (sub_pk [9, 0, 1, 2, 7, 8, 3, 4, 10, 5, 11, 6, 12] 13 N₂) ?_
      · exact List.forall_mem_cons.mpr ⟨Ne.symm i1, sub_pk [3, 4, 5, 6, 7, 8, 10] 11 hdg⟩
      intro s₃ m₃ us₃ Sm₃ F₃ A₃ I₃ N₃
      k_steps
      refine TurnS.intro (hsm₁.trans (Sm₂.trans Sm₃)) F₃ (sub_pk [5, 0, 1, 2, 3, 6, 7, 8, 9, 10, 11, 4, 12] 13 N₃) ?_ ⟨A₃.trans hA, us₃, o9, rfl, ⟨_, d9⟩, I₃⟩
      exact apart_map hI
    · omega
  · rintro m₁ nw s₁ ⟨hA, us, o2, rfl, hod, hus⟩ hsm₁ F₁ N₁
    exact next s₁ m₁ us o2 hsm₁ F₁ hA hod hus (sub_pk [0, 6, 7, 8, 9, 10, 11] 12 N₁)
end Mine
end
section -- Ph13
open PySem PySem.Spec PySem.Calls PySem.W PyProof.Rows
namespace Mine
theorem clear_Ph13 : True := by
  k_with_none
  w_top off
  exact True.intro

local macro_rules | `(tactic| k_all) => `(tactic| assumption)
local macro_rules | `(tactic| walk_at "call ref") => `(tactic| k_dflt (k_extra "my call"))
theorem ph13 (w : World) {mean : ExcName → Option Value} {mg mb : Str → Option Value} {fa : Addr} {cd : Value} {h₀ : Heap} {L : Addr} {m : Str → Option Value} {s : Shared} {rest : List Stmt} {Q : Flow → Shared → Prop} {E : Value → Shared → Prop}
    (B : Below callerA h₀ [] h₀) (F : Fr h₀ L s.heap m) (X : (Mine.hd.heap_39 w.params).In h₀) (T : Top topProg Mine.loose39 mean mg mb h₀) (C28 : CodeHd h₀ 28 24) (C63 : CodeHd h₀ 63 59) (C56 : CodeHd h₀ 56 52) {D dg : Addr} {vs ys : List Value} {kd kD : Nat} {dd : List Int} {wd : Int} {tw : Tok} {oN c4 oO c2 c1 : Obj} {tb : List (Addr × Obj)} (e1 : m (Str.ofString "width") = some (.int wd tw)) (e2 : m (Str.ofString "digits") = some (.ref dg))
    (hw0 : 1 ≤ wd) (hw1 : wd ≤ 64) (hv : IntsAre vs dd) (hlen : dd.length ≤ 64) (hdd : ∀ d ∈ dd, d.natAbs < 2 ^ 100) (hc1 : ∃ v, c1.data = .cell v) (hT : Tabs tb)
    (hcs : ∀ q ∈ ((L + 1, oN) :: (L + 1 + 1, c4) :: (L + 1 + 1 + 1, oO) :: (L + 1 + 1 + 1 + 1, c2) :: (L + 1 + 1 + 1 + 1 + 1, c1) :: []), isFields q.2.data = false)
    (N : News h₀ L s.heap ((dg, W.listOf vs.toArray kd) :: (D, W.listOf ys.toArray kD) :: (L + 1, oN) :: (L + 1 + 1, c4) :: (L + 1 + 1 + 1, oO) :: (L + 1 + 1 + 1 + 1, c2) :: (L + 1 + 1 + 1 + 1 + 1, c1) :: tb))
    (next : ∀ s' m' wl xs kx oW tb' t1 t2 t3 t4, Same s s' → Fr h₀ L s'.heap m' → Agree [(Str.ofString "divisor"), (Str.ofString "worth"), (Str.ofString "sign"), (Str.ofString "product")] m' m → m' (Str.ofString "divisor") = some (.int (2 ^ wd.toNat - 1) t1) → m' (Str.ofString "worth") = some (.int (evalD wd.toNat dd) t2) →
      m' (Str.ofString "sign") = some (.int 1 t3) → m' (Str.ofString "product") = some (.int 1 t4) → oW.data = .cell (some (.ref wl)) → IntsAre xs [1] → Tabs tb' → News h₀ L s'.heap ((wl, W.listOf xs.toArray kx) :: (D, W.listOf ys.toArray kD) :: (L + 1, oN) :: (L + 1 + 1, c4) :: (L + 1 + 1 + 1, oO) :: (L + 1 + 1 + 1 + 1, c2) :: (L + 1 + 1 + 1 + 1 + 1, oW) :: tb') → wpAny (model (PySem.Challenge.rw_ul0012_01).prog w) (callerA.deeper (envOfC (Str.ofString "law") lawSc L fa cd)) (execs rest (envOfC (Str.ofString "law") lawSc L fa cd)) Q E s') : wpAny (model (PySem.Challenge.rw_ul0012_01).prog w) (callerA.deeper (envOfC (Str.ofString "law") lawSc L fa cd)) (execs (lawAt 13 :: lawAt 14 :: lawAt 15 :: lawAt 16 :: lawAt 17 :: rest) (envOfC (Str.ofString "law") lawSc L fa cd)) Q E s := by
  conv in lawAt 13 => whnf
  conv in lawAt 14 => whnf
  conv in lawAt 15 => whnf
  conv in lawAt 16 => whnf
  conv in lawAt 17 => whnf
  conv in (occs := *) lawSc => all_goals whnf
  revert X; k_fill; intro X
  have F0 := fr_put (Str.ofString "digits") (fr_put (Str.ofString "width") F e1) e2
  clear F
  obtain ⟨FR, hFR⟩ : ∃ FR, FR = (dg, W.listOf vs.toArray kd) :: (D, W.listOf ys.toArray kD) :: (L + 1, oN) :: (L + 1 + 1, c4) :: (L + 1 + 1 + 1, oO) :: (L + 1 + 1 + 1 + 1, c2) :: (L + 1 + 1 + 1 + 1 + 1, c1) :: [] := ⟨_, rfl⟩
  have hFt : ∀ tb', (dg, W.listOf vs.toArray kd) :: (D, W.listOf ys.toArray kD) :: (L + 1, oN) :: (L + 1 + 1, c4) :: (L + 1 + 1 + 1, oO) :: (L + 1 + 1 + 1 + 1, c2) :: (L + 1 + 1 + 1 + 1 + 1, c1) :: tb' = FR ++ tb' := fun tb' => by rw [hFR]; rfl
  have hnf : ∀ q ∈ FR, isFields q.2.data = false := by
    intro q hq
    rw [hFR] at hq
    rcases List.mem_cons.mp hq with rfl | hq
    · rfl
    rcases List.mem_cons.mp hq with rfl | hq
    · rfl
    exact hcs q hq
  have hmem : (dg, W.listOf vs.toArray kd) ∈ (dg, W.listOf vs.toArray kd) :: (D, W.listOf ys.toArray kD) :: (L + 1, oN) :: (L + 1 + 1, c4) :: (L + 1 + 1 + 1, oO) :: (L + 1 + 1 + 1 + 1, c2) :: (L + 1 + 1 + 1 + 1 + 1, c1) :: tb := .head _
  have hldg : s.heap.IsList dg vs.toArray := PySem.IsL.isList (n := kd) (N _ hmem).1
  have hltb := tabs_list N hT (fun p hp => .tail _ (.tail _ (.tail _ (.tail _ (.tail _ (.tail _ (.tail _ hp))))))) hmem
  rw [hFt] at N
  have hS := sep_of N hT hnf
  rw [hFt] at hmem
  have hx := hv.length
  k_with "my call" => (refine' digits2int_use w (front := FR) (tb := tb) (vs := vs) (ds := dd) ?b1 ?b2 ?b3 ?b4 ?b5 C63 ?nn hT hS ?a5 ?a6 ?hl hltb hv hlen ?w0 hw1 hdd ?_; (case b1 => k_asm); (case b2 => k_asm); (case b3 => k_asm); (case b4 => k_asm); (case b5 => exact rfl); (case nn => k_asm); (case a5 => decide); (case a6 => decide); (case hl => exact PySem.IsL.isList (n := kd) ((by assumption : News h₀ L _ (FR ++ tb)) _ hmem).1); (case w0 => omega); intro h9 tk9 tb9 u9 F9 N9 T9 S9 X9 sb9; (try dsimp only); (try k_fold))
  k_steps
  rename_i wl h6 FA NA lw
  try clear N
  have NB : News h₀ L h6 ((wl, W.listOf #[Value.int 1 (tk + 1 + 1 + 1 + 1)] 0) :: (dg, W.listOf vs.toArray kd) :: (D, W.listOf ys.toArray kD) :: (L + 1, oN) :: (L + 1 + 1, c4) :: (L + 1 + 1 + 1, oO) :: (L + 1 + 1 + 1 + 1, c2) :: (L + 1 + 1 + 1 + 1 + 1, c1) :: tb9) := by
    have := NA
    rw [← hFt] at this
    exact this
  clear NA
  obtain ⟨vc1, hc1⟩ := hc1
  have htt : ∀ p ∈ tb9, p ∈ (wl, W.listOf #[Value.int 1 (tk + 1 + 1 + 1 + 1)] 0) :: (dg, W.listOf vs.toArray kd) :: (D, W.listOf ys.toArray kD) :: (L + 1, oN) :: (L + 1 + 1, c4) :: (L + 1 + 1 + 1, oO) :: (L + 1 + 1 + 1 + 1, c2) :: (L + 1 + 1 + 1 + 1 + 1, c1) :: tb9 := fun p hp => .tail _ (.tail _ (.tail _ (.tail _ (.tail _ (.tail _ (.tail _ (.tail _ hp)))))))
  have a1 := ne_lc NB (.tail _ (.head _)) (.tail _ (.tail _ (.tail _ (.tail _ (.tail _ (.tail _ (.tail _ (.head _)))))))) hc1
  have a2 := ne_lc NB (.tail _ (.tail _ (.head _))) (.tail _ (.tail _ (.tail _ (.tail _ (.tail _ (.tail _ (.tail _ (.head _)))))))) hc1
  have a3 := ne_lc NB (.head _) (.tail _ (.tail _ (.tail _ (.tail _ (.tail _ (.tail _ (.tail _ (.head _)))))))) hc1
  have b1 := tabs_cell NB T9 htt (.tail _ (.tail _ (.tail _ (.tail _ (.tail _ (.tail _ (.tail _ (.head _)))))))) hc1
  clear htt
  k_steps
  rename_i h7 o7 F7 N7 d7
  refine next _ _ wl [Value.int 1 (tk + 1 + 1 + 1 + 1)] 0 o7 tb9 _ u9 _ _ ⟨rfl, fun h => h⟩ F7 (.put (.put (.put (.put (.same (.same .refl e1) e2) (.head _)) (.tail _ (.head _))) (.tail _ (.tail _ (.head _)))) (.tail _ (.tail _ (.tail _ (.head _))))) rfl rfl rfl rfl d7 (ints_one _ _) T9 fun p hp => ?_
  rcases List.mem_cons.mp hp with rfl | hp
  · exact N7 _ (.head _)
  · exact N7 _ (.tail _ (.tail _ hp))
end Mine
end
section -- Ph18b
open PySem PySem.Spec PySem.Calls PySem.W PyProof.Rows
namespace Mine
local macro_rules | `(tactic| walk_at "none") => `(tactic| fail "none")
theorem clear_Ph18b : True := by
  k_with_none
  w_top off
  exact True.intro

local macro_rules | `(tactic| k_all) => `(tactic| assumption)
local macro_rules | `(tactic| walk_at "call ref") => `(tactic| k_dflt (k_extra "my call"))
theorem ph18b (w : World) {mean : ExcName → Option Value} {mg mb : Str → Option Value} {fa : Addr} {cd : Value} {h₀ : Heap} {L : Addr} {m : Str → Option Value} {s : Shared} {rest : List Stmt} {Q : Flow → Shared → Prop} {E : Value → Shared → Prop}
    (B : Below callerA h₀ [] h₀) (F : Fr h₀ L s.heap m) (X : (Mine.hd.heap_39 w.params).In h₀) (T : Top topProg Mine.loose39 mean mg mb h₀) (C28 : CodeHd h₀ 28 24) (C63 : CodeHd h₀ 63 59) (C56 : CodeHd h₀ 56 52) {x b sg pr d : Int} {t1 t2 t3 t4 td : Tok} {c4 : Obj} {FR tb : List (Addr × Obj)}
    (e1 : m (Str.ofString "worth") = some (.int x t1)) (e2 : m (Str.ofString "divisor") = some (.int b t2)) (e3 : m (Str.ofString "sign") = some (.int sg t3)) (e4 : m (Str.ofString "product") = some (.int pr t4)) (dD : c4.data = .cell (some (.int d td)))
    (hb : 0 < b) (hb1 : Builtin.Int.intBits b ≤ 64) (hxb : Builtin.Int.intBits x ≤ 64 * Builtin.Int.intBits b) (hr : x % b = 0) (hT : Tabs tb) (hS : Sep ((L + 1 + 1, c4) :: FR) tb)
    (hpr : pr.natAbs ≤ 100000) (hd5 : d.natAbs ≤ 5)
    (N : News h₀ L s.heap ((L + 1 + 1, c4) :: (FR ++ tb)))
    (next : ∀ s' m' tb' t1 t2 t3 t4, Same s s' → Fr h₀ L s'.heap m' → Agree [(Str.ofString "worth"), (Str.ofString "rest"), (Str.ofString "sign"), (Str.ofString "product")] m' m → m' (Str.ofString "worth") = some (.int (x / b) t1) → m' (Str.ofString "divisor") = some (.int b t2) → m' (Str.ofString "sign") = some (.int (-sg) t3) → m' (Str.ofString "product") = some (.int (pr * d) t4) →
      Tabs tb' → Sep ((L + 1 + 1, c4) :: FR) tb' → News h₀ L s'.heap ((L + 1 + 1, c4) :: (FR ++ tb')) → wpAny (model (PySem.Challenge.rw_ul0012_01).prog w) (callerA.deeper (envOfC (Str.ofString "law") lawSc L fa cd)) (execs rest (envOfC (Str.ofString "law") lawSc L fa cd)) Q E s') : wpAny (model (PySem.Challenge.rw_ul0012_01).prog w) (callerA.deeper (envOfC (Str.ofString "law") lawSc L fa cd)) (execs (forAt 18 0 :: forAt 18 1 :: forAt 18 2 :: forAt 18 3 :: rest) (envOfC (Str.ofString "law") lawSc L fa cd)) Q E s := by
  conv in forAt 18 0 => whnf
  conv in forAt 18 1 => whnf
  conv in forAt 18 2 => whnf
  conv in forAt 18 3 => whnf
  conv in (occs := *) lawSc => all_goals whnf
  revert X; k_fill; intro X
  have F0 := fr_put (Str.ofString "product") (fr_put (Str.ofString "sign") (fr_put (Str.ofString "divisor") (fr_put (Str.ofString "worth") F e1) e2) e3) e4
  clear F
  k_with "my call" => (refine' int_divmod_use w (front := (L + 1 + 1, c4) :: FR) (tb := tb) ?b1 ?b2 ?b3 ?b4 ?b5 C56 C63 ?nn hT hS ?a5 ?a6 hb hb1 hxb ?_; (case b1 => k_asm); (case b2 => k_asm); (case b3 => k_asm); (case b4 => k_asm); (case b5 => exact rfl); (case nn => k_asm); (case a5 => decide); (case a6 => decide); intro q9 h9 tk9 tb9 u9 v9 F9 N9 T9 S9 A9 D9 X9 sb9; (try dsimp only [List.cons_append] at N9); (try dsimp only); (try k_fold))
  k_steps
  try any_goals (exact absurd hr (by assumption))
  · rename Fr _ _ _ _ => kF; rename News _ _ _ _ => kN
    exact next _ _ tb9 _ _ _ _ ⟨rfl, fun h => h⟩ kF (.put (.put (.put (.put (.same (.same (.same (.same .refl e1) e2) e3) e4) (.head _)) (.tail _ (.head _))) (.tail _ (.tail _ (.head _)))) (.tail _ (.tail _ (.tail _ (.head _))))) rfl rfl rfl rfl T9 S9 fun p hp => kN p (.tail _ hp)
end Mine
end
section -- Ph18w
open PySem PySem.Spec PySem.Calls PySem.W PyProof.Rows
namespace Mine
theorem clear_Ph18w : True := by
  k_with_none
  w_top off
  exact True.intro

local macro_rules | `(tactic| k_all) => `(tactic| assumption)
local macro_rules | `(tactic| walk_at "eval Name") => `(tactic| ((with_reducible show wpAny _ _ (eval (Expr.Name _ _) (compEnvC _ _ _ _)) _ _ _); k_dflt (refine' LCgL.ld_built ?q1 ?q2 ?q3 ?q4 ?q5 ?q6 ?_; (case q1 => k_asm); (case q2 => k_asm); (case q3 => k_asm); (case q4 => k_is); (case q5 => boot_by_name); (case q6 => decide))))
local macro_rules | `(tactic| walk_at "pyIter ref") => `(tactic| fail "mine")
local macro_rules | `(tactic| walk_at "eval ListComp") => `(tactic| k_dflt (refine compEval (by k_asm) (by with_unfolding_all rfl) (by decide) (by rfl) (by decide) (by rfl) ?_))
theorem ph18w (w : World) {mean : ExcName → Option Value} {mg mb : Str → Option Value} {fa : Addr} {cd : Value} {h₀ : Heap} {L : Addr} {m : Str → Option Value} {s : Shared} {rest : List Stmt} {Q : Flow → Shared → Prop} {E : Value → Shared → Prop}
    (B : Below callerA h₀ [] h₀) (F : Fr h₀ L s.heap m) (X : (Mine.hd.heap_39 w.params).In h₀) (T : Top topProg Mine.loose39 mean mg mb h₀) (C28 : CodeHd h₀ 28 24) (C63 : CodeHd h₀ 63 59) (C56 : CodeHd h₀ 56 52) {wl : Addr} {xs : List Value} {kx : Nat} {ws : List Int} {d : Int} {td : Tok} {c4 oW : Obj} {S : List (Addr × Obj)}
    (hx : IntsAre xs ws) (h0 : 1 ≤ d) (h5 : d ≤ 5) (hw1 : 1 ≤ ws.length) (hw : ws.length ≤ 40) (dD : c4.data = .cell (some (.int d td))) (dW : oW.data = .cell (some (.ref wl)))
    (hSc : ∀ p ∈ S, isCell p.2.data = false ∨ @Ne Nat p.1 (L + 1 + 1 + 1 + 1 + 1))
    (N : News h₀ L s.heap ((wl, W.listOf xs.toArray kx) :: (L + 1 + 1, c4) :: (L + 1 + 1 + 1 + 1 + 1, oW) :: S))
    (next : ∀ s' wl' xs' kx' oW', Same s s' → Fr h₀ L s'.heap m → oW'.data = .cell (some (.ref wl')) → IntsAre xs' (wayI ws d) → (∀ p ∈ ((L + 1 + 1, c4) :: (L + 1 + 1 + 1 + 1 + 1, oW) :: S), p.1 ≠ wl') →
      News h₀ L s'.heap ((wl', W.listOf xs'.toArray kx') :: (L + 1 + 1, c4) :: (L + 1 + 1 + 1 + 1 + 1, oW') :: S) → wpAny (model (PySem.Challenge.rw_ul0012_01).prog w) (callerA.deeper (envOfC (Str.ofString "law") lawSc L fa cd)) (execs rest (envOfC (Str.ofString "law") lawSc L fa cd)) Q E s') : wpAny (model (PySem.Challenge.rw_ul0012_01).prog w) (callerA.deeper (envOfC (Str.ofString "law") lawSc L fa cd)) (execs (forAt 18 4 :: rest) (envOfC (Str.ofString "law") lawSc L fa cd)) Q E s := by
  conv in forAt 18 4 => whnf
  conv in (occs := *) lawSc => all_goals whnf
  revert X; k_fill; intro X
  have hxl := hx.length
  k_steps
  rename_i h6 tk6 t6 u6 v6 R6 F7 N7 _
  have hkn : (ws.length : Int) + d - 1 = ((wayN ws d : Nat) : Int) := by unfold wayN; omega
  have hsz : Builtin.Range.rangeSize 0 ((ws.length : Int) + d - 1) 1 = ((wayN ws d : Nat) : Int) := by rw [rangeSize_one]; split <;> omega
  have hsm : Builtin.Range.small 0 ((ws.length : Int) + d - 1) 1 = true := small_one (by decide) (by decide) (by omega) (by omega)
  refine pyIter_rangeN F7 N7 R6 hsm fun I h8 F8 N8 lI => ?_
  rw [hsz] at N8
  have hIt := fun p hp => Nat.ne_of_lt (ktn_ltOf lI p hp)
  clear lI N7 F7
  obtain ⟨SS, hSS⟩ : ∃ SS, SS = (wl, W.listOf xs.toArray kx) :: (L + 1 + 1, c4) :: (L + 1 + 1 + 1 + 1 + 1, oW) :: S := ⟨_, rfl⟩
  rw [← hSS] at N8 hIt
  refine ⟨I, _, _, _, _, _, _, _, fun i ys nw => nw = SS ∧ IntsAre ys ((wayI ws d).take i), rfl, CompOK.range (n := wayN ws d) rfl rfl ?_ F8 N8 hIt ⟨rfl, .nil⟩ ?_ ?_, ?_⟩
  · rw [PySem.sizeLine_eq]; omega
  · rintro i ys nw ⟨_, h⟩
    rw [h.length, List.length_take]; omega
  · rintro i t oI C oC D2 ys2 nw m₂ h tk dr E' hi ⟨rfl, hys⟩ hoC hm2 F₃ N₃ ap
    rw [show (0 : Int) + (i : Nat) = ((i : Nat) : Int) by omega] at hm2
    refine wpAny_tests_nil ?_
    rw [if_pos rfl]
    rw [hSS] at N₃
    k_steps
    rename Fr _ _ _ _ => kF; rename News _ _ _ _ => kN
    rw [← hSS] at kN
    refine ⟨_, _, _, nw, rfl, kF, fun p hp => kN p (.tail _ hp), ap, rfl, ?_⟩
    rw [List.take_add_one, wayI_get hi]
    exact ints_app hys (ints_one _ _)
  · rintro D2 h tk dr ys2 nw ⟨rfl, hys⟩ F' N' hap
    have hall : (wayI ws d).take (wayN ws d) = wayI ws d := by
      rw [List.take_of_length_le]; rw [wayI_len]; exact Nat.le_refl _
    rw [hall] at hys
    have hap2 := hap
    rw [hSS] at N' hap2
    have b1 := off_cell (S := (D2, LCg.lst ys2) :: (wl, W.listOf xs.toArray kx) :: (L + 1 + 1, c4) :: S) (sub_pk [3, 0, 1, 2] 4 N') dW (by
      simp only [List.forall_mem_cons]
      exact ⟨.inl rfl, .inl rfl, .inr (neN (by omega)), hSc⟩)
    simp only [List.forall_mem_cons] at b1 hap2
    obtain ⟨n1, n2, n3, n4⟩ := b1
    obtain ⟨p1, p2, p3, p4⟩ := hap2
    replace n1 := neN n1; replace n2 := neN n2; replace n3 := neN n3
    k_steps
    rename_i h9 o9 F9 N9 d9
    refine next _ D2 ys2 ys2.length o9 ⟨rfl, fun h => h⟩ F9 d9 hys ?_ fun p hp => ?_
    · simp only [List.forall_mem_cons]
      exact ⟨p2, p3, p4⟩
    · rcases List.mem_cons.mp hp with rfl | hp
      · exact N9 _ (.head _)
      · exact N9 _ (.tail _ (.tail _ hp))
end Mine
end
section -- Ph18
open PySem PySem.Spec PySem.Calls PySem.W PyProof.Rows
namespace Mine
theorem clear_Ph18 : True := by
  k_with_none
  w_top off
  exact True.intro

local macro_rules | `(tactic| k_all) => `(tactic| assumption)
local macro_rules | `(tactic| walk_at "pyIter ref") => `(tactic| fail "mine")
local macro_rules | `(tactic| walk_at "exec For Name Name cons nil") => `(tactic| k_dflt (refine wpAny_For ?_))
abbrev wnames : List Str := [(Str.ofString "worth"), (Str.ofString "rest"), (Str.ofString "sign"), (Str.ofString "product")]
theorem ph18 (w : World) {mean : ExcName → Option Value} {mg mb : Str → Option Value} {fa : Addr} {cd : Value} {h₀ : Heap} {L : Addr} {m : Str → Option Value} {s : Shared} {rest : List Stmt} {Q : Flow → Shared → Prop} {E : Value → Shared → Prop}
    (B : Below callerA h₀ [] h₀) (F : Fr h₀ L s.heap m) (X : (Mine.hd.heap_39 w.params).In h₀) (T : Top topProg Mine.loose39 mean mg mb h₀) (C28 : CodeHd h₀ 28 24) (C63 : CodeHd h₀ 63 59) (C56 : CodeHd h₀ 56 52) {wl D : Addr} {xs ys : List Value} {kx kD : Nat} {ds : List Int} {x b : Int} {t1 t2 t3 t4 : Tok} {oN c4 oO c2 oW : Obj} {tb : List (Addr × Obj)}
    (e0 : m (Str.ofString "distances") = some (.ref D)) (e1 : m (Str.ofString "worth") = some (.int x t1)) (e2 : m (Str.ofString "divisor") = some (.int b t2)) (e3 : m (Str.ofString "sign") = some (.int 1 t3)) (e4 : m (Str.ofString "product") = some (.int 1 t4))
    (hy : IntsAre ys ds) (hx : IntsAre xs [1]) (hd : ds.length ≤ 4) (hds : ∀ d ∈ ds, 1 ≤ d ∧ d ≤ 5) (hb : 0 < b) (hb1 : Builtin.Int.intBits b ≤ 64)
    (hxb : ∀ i, i < ds.length → Builtin.Int.intBits (worthF x b i) ≤ 64 * Builtin.Int.intBits b) (hr : ∀ i, i < ds.length → worthF x b i % b = 0)
    (hpr : ∀ i, i < ds.length → (prodF (ds.take i)).natAbs ≤ 100000) (hwl : ∀ i, i < ds.length → 1 ≤ (waysF (ds.take i)).length ∧ (waysF (ds.take i)).length ≤ 40)
    (hcN : ∃ v, oN.data = .cell v) (hc4 : ∃ v, c4.data = .cell v) (hcO : ∃ v, oO.data = .cell v) (hc2 : ∃ v, c2.data = .cell v) (dW : oW.data = .cell (some (.ref wl))) (hT : Tabs tb)
    (N : News h₀ L s.heap ((wl, W.listOf xs.toArray kx) :: (D, W.listOf ys.toArray kD) :: (L + 1, oN) :: (L + 1 + 1, c4) :: (L + 1 + 1 + 1, oO) :: (L + 1 + 1 + 1 + 1, c2) :: (L + 1 + 1 + 1 + 1 + 1, oW) :: tb))
    (next : ∀ s' m' t1 t3 t4 wl' xs' kx' od oW' tb', Same s s' → Fr h₀ L s'.heap m' → Agree wnames m' m → m' (Str.ofString "worth") = some (.int (worthF x b ds.length) t1) → m' (Str.ofString "sign") = some (.int (signF ds.length) t3) → m' (Str.ofString "product") = some (.int (prodF ds) t4) →
      (∃ v, od.data = .cell v) → oW'.data = .cell (some (.ref wl')) → IntsAre xs' (waysF ds) → Tabs tb' → News h₀ L s'.heap ((wl', W.listOf xs'.toArray kx') :: (D, W.listOf ys.toArray kD) :: (L + 1, oN) :: (L + 1 + 1, od) :: (L + 1 + 1 + 1, oO) :: (L + 1 + 1 + 1 + 1, c2) :: (L + 1 + 1 + 1 + 1 + 1, oW') :: tb') → wpAny (model (PySem.Challenge.rw_ul0012_01).prog w) (callerA.deeper (envOfC (Str.ofString "law") lawSc L fa cd)) (execs rest (envOfC (Str.ofString "law") lawSc L fa cd)) Q E s') : wpAny (model (PySem.Challenge.rw_ul0012_01).prog w) (callerA.deeper (envOfC (Str.ofString "law") lawSc L fa cd)) (execs (lawAt 18 :: rest) (envOfC (Str.ofString "law") lawSc L fa cd)) Q E s := by
  conv in lawAt 18 => whnf
  conv in (occs := *) lawSc => all_goals whnf
  revert X; k_fill; intro X
  have F0 := fr_put (Str.ofString "distances") F e0
  clear F
  obtain ⟨vN, hcN⟩ := hcN
  obtain ⟨vO, hcO⟩ := hcO
  obtain ⟨v2, hc2⟩ := hc2
  have hyl := hy.length
  k_steps
  have hD : (D, W.listOf ys.toArray kD) ∈ ((wl, W.listOf xs.toArray kx) :: (D, W.listOf ys.toArray kD) :: (L + 1, oN) :: (L + 1 + 1, c4) :: (L + 1 + 1 + 1, oO) :: (L + 1 + 1 + 1 + 1, c2) :: (L + 1 + 1 + 1 + 1 + 1, oW) :: tb) := .tail _ (.head _)
  refine pyIter_listN F0 N (PySem.IsL.isList (n := kD) (N _ hD).1) fun I h7 F7 N7 lI => ?_
  have hIt := fun p hp => Nat.ne_of_lt (ktn_ltOf lI p hp)
  have hDI : D ≠ I := hIt _ hD
  clear lI
  rw [put_same e0] at F7
  refine forListS (l := D) (vs := ys) (ol := W.listOf ys.toArray kD) rfl hDI (fun i m₁ nw => Agree wnames m₁ m ∧ (∃ t, m₁ (Str.ofString "worth") = some (.int (worthF x b i) t)) ∧ (∃ t, m₁ (Str.ofString "sign") = some (.int (signF i) t)) ∧ (∃ t, m₁ (Str.ofString "product") = some (.int (prodF (ds.take i)) t)) ∧
    ∃ q zs k od oV tb', nw = (q, W.listOf zs.toArray k) :: (D, W.listOf ys.toArray kD) :: (L + 1, oN) :: (L + 1 + 1, od) :: (L + 1 + 1 + 1, oO) :: (L + 1 + 1 + 1 + 1, c2) :: (L + 1 + 1 + 1 + 1 + 1, oV) :: tb' ∧ (∃ v, od.data = .cell v) ∧ oV.data = .cell (some (.ref q)) ∧ IntsAre zs (waysF (ds.take i)) ∧ Tabs tb') ⟨rfl, _, rfl⟩ ?_ F7 N7 hIt ⟨.refl, ⟨_, e1⟩, ⟨_, e3⟩, ⟨_, e4⟩, wl, xs, kx, c4, oW, tb, rfl, hc4, dW, hx, hT⟩ ?_ ?_
  · rintro i m₁ nw ⟨_, _, _, _, q, zs, k, od, oV, tb', rfl, _⟩; exact .inl (.tail _ (.head _))
  · rintro i v m₁ nw s₁ o hi hv ⟨hA, ⟨u1, f1⟩, ⟨u3, f3⟩, ⟨u4, f4⟩, q, zs, k, od, oV, tb', rfl, ⟨vd, hod⟩, dV, hzs, hT'⟩ hI hsm F₁ N₁
    obtain ⟨n, hn⟩ : ∃ n, ds[i]? = some n := ⟨_, List.getElem?_eq_getElem (by omega)⟩
    obtain ⟨tn, htn⟩ := hy.get i n hn
    rw [htn] at hv
    obtain rfl := Option.some.inj hv
    obtain ⟨n1, n5⟩ := hds n (List.mem_of_getElem? hn)
    have hI0 : ∀ p ∈ (q, W.listOf zs.toArray k) :: (D, W.listOf ys.toArray kD) :: (L + 1, oN) :: (L + 1 + 1, od) :: (L + 1 + 1 + 1, oO) :: (L + 1 + 1 + 1 + 1, c2) :: (L + 1 + 1 + 1 + 1 + 1, oV) :: [], p.1 ≠ I := fun p hp => hI p (List.mem_append_left tb' hp)
    have i4 := hI _ (.tail _ (.tail _ (.tail _ (.head _))))
    have i7 := hI _ (.tail _ (.tail _ (.tail _ (.tail _ (.tail _ (.tail _ (.head _)))))))
    have i8 : ∀ p ∈ tb', p.1 ≠ I := fun p hp => hI p (.tail _ (.tail _ (.tail _ (.tail _ (.tail _ (.tail _ (.tail _ hp)))))))
    obtain ⟨SS, hSS⟩ : ∃ SS, SS = (I, o) :: (q, W.listOf zs.toArray k) :: (D, W.listOf ys.toArray kD) :: (L + 1, oN) :: (L + 1 + 1 + 1, oO) :: (L + 1 + 1 + 1 + 1, c2) :: (L + 1 + 1 + 1 + 1 + 1, oV) :: tb' := ⟨_, rfl⟩
    have NS : News h₀ L s₁.heap ((L + 1 + 1, od) :: SS) := by rw [hSS]; exact (sub_pk [4, 0, 1, 2, 3, 5, 6, 7] 8 N₁)
    have b1 : ∀ p ∈ SS, p.1 ≠ L + 1 + 1 := off_cell NS hod (by
      rw [hSS]
      simp only [List.forall_mem_cons]
      exact ⟨.inr (Ne.symm i4), .inl rfl, .inl rfl, .inr (neN (by omega)), .inr (neN (by omega)), .inr (neN (by omega)), .inr (neN (by omega)), hT'.nocell⟩)
    clear N₁
    walk1
    walk1
    rename_i h9 o9 F9 N9 d9
    rw [hSS] at N9
    obtain ⟨FR, hFR⟩ : ∃ FR, FR = (I, o) :: (q, W.listOf zs.toArray k) :: (D, W.listOf ys.toArray kD) :: (L + 1, oN) :: (L + 1 + 1 + 1, oO) :: (L + 1 + 1 + 1 + 1, c2) :: (L + 1 + 1 + 1 + 1 + 1, oV) :: [] := ⟨_, rfl⟩
    have hFt : ∀ tb', (I, o) :: (q, W.listOf zs.toArray k) :: (D, W.listOf ys.toArray kD) :: (L + 1, oN) :: (L + 1 + 1 + 1, oO) :: (L + 1 + 1 + 1 + 1, c2) :: (L + 1 + 1 + 1 + 1 + 1, oV) :: tb' = FR ++ tb' := fun tb' => by rw [hFR]; rfl
    have hS0 : Sep ((L + 1 + 1, o9) :: (q, W.listOf zs.toArray k) :: (D, W.listOf ys.toArray kD) :: (L + 1, oN) :: (L + 1 + 1 + 1, oO) :: (L + 1 + 1 + 1 + 1, c2) :: (L + 1 + 1 + 1 + 1 + 1, oV) :: []) tb' := by
      refine sep_of (sub_pk [0, 2, 3, 4, 5, 6, 7] 8 N9) hT' ?_
      simp only [List.forall_mem_cons]
      exact ⟨cell_nf d9, rfl, rfl, cell_nf hcN, cell_nf hcO, cell_nf hc2, cell_nf dV, fun _ h => nomatch h⟩
    have hS : Sep ((L + 1 + 1, o9) :: FR) tb' := by
      rw [hFR]
      refine sep_cons (hS0 _ (.head _)) (sep_cons (fun p hp => Ne.symm (i8 p hp)) (sep_tail hS0))
    rw [hFt] at N9
    have dv := hA.get _ e2 (by decide)
    refine ph18b w B F9 X T C28 C63 C56 (FR := FR) (tb := tb') (d := n) (td := tn) f1 dv f3 f4 d9 hb hb1 (hxb i (by omega)) (hr i (by omega)) hT' hS (hpr i (by omega)) (by omega) N9 ?_
    intro s₂ m₂ tb₂ u1' u2' u3' u4' Sm₂ F₂ A₂ g1 g2 g3 g4 T₂ S₂ N₂
    rw [← hFt] at N₂
    rw [hFR] at S₂
    refine ph18w w B F₂ X T C28 C63 C56 (wl := q) (xs := zs) (kx := k) (ws := waysF (ds.take i)) (d := n) (td := tn) (c4 := o9) (oW := oV) (S := (I, o) :: (D, W.listOf ys.toArray kD) :: (L + 1, oN) :: (L + 1 + 1 + 1, oO) :: (L + 1 + 1 + 1 + 1, c2) :: tb₂) hzs n1 n5 (hwl i (by omega)).1 (hwl i (by omega)).2 d9 dV ?_ (sub_pk [2, 0, 7, 1, 3, 4, 5, 6] 8 N₂) ?_
    · simp only [List.forall_mem_cons]
      exact ⟨.inr (Ne.symm i7), .inl rfl, .inr (neN (by omega)), .inr (neN (by omega)), .inr (neN (by omega)), T₂.nocell⟩
    intro s₃ wl₃ xs₃ k₃ o₃ Sm₃ F₃ d₃ I₃ hap N₃
    k_steps
    refine TurnS.intro (hsm.trans (Sm₂.trans Sm₃)) F₃ (sub_pk [3, 0, 4, 5, 1, 6, 7, 2] 8 N₃) ?_ ⟨A₂.trans hA, ⟨_, g1⟩, ⟨_, g3⟩, ⟨_, by rw [prodF_take hn]; exact g4⟩, wl₃, xs₃, k₃, o9, o₃, tb₂, rfl, ⟨_, d9⟩, d₃, by rw [waysF_take hn]; exact I₃, T₂⟩
    have p3 := hap _ (.tail _ (.tail _ (.head _)))
    refine List.forall_mem_cons.mpr ⟨Ne.symm p3, ?_⟩
    have h1 : ∀ p ∈ (D, W.listOf ys.toArray kD) :: (L + 1, oN) :: (L + 1 + 1, od) :: (L + 1 + 1 + 1, oO) :: (L + 1 + 1 + 1 + 1, c2) :: (L + 1 + 1 + 1 + 1 + 1, oV) :: [], p.1 ≠ I := fun p hp => hI0 p (.tail _ hp)
    intro p hp
    rcases List.mem_append.mp (show p ∈ ((D, W.listOf ys.toArray kD) :: (L + 1, oN) :: (L + 1 + 1, o9) :: (L + 1 + 1 + 1, oO) :: (L + 1 + 1 + 1 + 1, c2) :: (L + 1 + 1 + 1 + 1 + 1, o₃) :: []) ++ tb₂ from hp) with hp | hp
    · exact apart_map (S' := (D, W.listOf ys.toArray kD) :: (L + 1, oN) :: (L + 1 + 1, o9) :: (L + 1 + 1 + 1, oO) :: (L + 1 + 1 + 1 + 1, c2) :: (L + 1 + 1 + 1 + 1 + 1, o₃) :: []) h1 rfl p hp
    · exact Ne.symm (S₂ _ (.tail _ (.head _)) p hp)
  · rintro m₁ nw s₁ ⟨hA, ⟨u1, f1⟩, ⟨u3, f3⟩, ⟨u4, f4⟩, q, zs, k, od, oV, tb', rfl, hod, dV, hzs, hT'⟩ hsm F₁ N₁
    rw [hyl] at f1 f3
    rw [hyl, List.take_length] at f4 hzs
    exact next s₁ m₁ u1 u3 u4 q zs k od oV tb' hsm F₁ hA f1 f3 f4 hod dV hzs hT' N₁
end Mine
end
section -- Ph19
open PySem PySem.Spec PySem.Calls PySem.W PyProof.Rows
namespace Mine
theorem clear_Ph19 : True := by
  k_with_none
  w_top off
  exact True.intro

local macro_rules | `(tactic| k_all) => `(tactic| assumption)
local macro_rules | `(tactic| walk_at "call ref") => `(tactic| k_dflt (k_extra "my call"))
theorem ph19 (w : World) {mean : ExcName → Option Value} {mg mb : Str → Option Value} {fa : Addr} {cd : Value} {h₀ : Heap} {L : Addr} {m : Str → Option Value} {s : Shared} {rest : List Stmt} {Q : Flow → Shared → Prop} {E : Value → Shared → Prop}
    (B : Below callerA h₀ [] h₀) (F : Fr h₀ L s.heap m) (X : (Mine.hd.heap_39 w.params).In h₀) (T : Top topProg Mine.loose39 mean mg mb h₀) (C28 : CodeHd h₀ 28 24) (C63 : CodeHd h₀ 63 59) (C56 : CodeHd h₀ 56 52) {x b sg pr wd : Int} {t1 t2 t3 t4 t5 : Tok} {FR tb : List (Addr × Obj)}
    (e1 : m (Str.ofString "worth") = some (.int x t1)) (e2 : m (Str.ofString "divisor") = some (.int b t2)) (e3 : m (Str.ofString "sign") = some (.int sg t3)) (e4 : m (Str.ofString "product") = some (.int pr t4)) (e5 : m (Str.ofString "width") = some (.int wd t5))
    (hb : 0 < b) (hb1 : Builtin.Int.intBits b ≤ 64) (hxb : Builtin.Int.intBits x ≤ 64 * Builtin.Int.intBits b) (hr : x % b = (sg * pr) % b) (hT : Tabs tb) (hS : Sep FR tb)
    (hsg : sg = 1 ∨ sg = -1) (hpr : pr.natAbs ≤ 100000)
    (N : News h₀ L s.heap (FR ++ tb))
    (next : ∀ s' m' tb', Same s s' → Fr h₀ L s'.heap m' → Agree [] m' m →
      Tabs tb' → Sep FR tb' → News h₀ L s'.heap (FR ++ tb') → wpAny (model (PySem.Challenge.rw_ul0012_01).prog w) (callerA.deeper (envOfC (Str.ofString "law") lawSc L fa cd)) (execs rest (envOfC (Str.ofString "law") lawSc L fa cd)) Q E s') : wpAny (model (PySem.Challenge.rw_ul0012_01).prog w) (callerA.deeper (envOfC (Str.ofString "law") lawSc L fa cd)) (execs (lawAt 19 :: rest) (envOfC (Str.ofString "law") lawSc L fa cd)) Q E s := by
  conv in lawAt 19 => whnf
  conv in (occs := *) lawSc => all_goals whnf
  revert X; k_fill; intro X
  have F0 := fr_put (Str.ofString "product") (fr_put (Str.ofString "sign") (fr_put (Str.ofString "divisor") (fr_put (Str.ofString "worth") F e1) e2) e3) e4
  clear F
  k_with "my call" => (refine' int_divmod_use w (front := FR) (tb := tb) ?b1 ?b2 ?b3 ?b4 ?b5 C56 C63 ?nn hT hS ?a5 ?a6 hb hb1 hxb ?_; (case b1 => k_asm); (case b2 => k_asm); (case b3 => k_asm); (case b4 => k_asm); (case b5 => exact rfl); (case nn => k_asm); (case a5 => decide); (case a6 => decide); intro q9 h9 tk9 tb9 u9 v9 F9 N9 T9 S9 A9 D9 X9 sb9; (try dsimp only); (try k_fold))
  k_steps
  try any_goals (exact absurd (hr.trans (Int.fmod_eq_emod_of_nonneg _ (Int.le_of_lt hb)).symm) (by assumption))
  · exact next _ _ tb9 ⟨rfl, fun h => h⟩ F9 (.same (.same (.same (.same .refl e1) e2) e3) e4) T9 S9 fun p hp => N9 p (.tail _ hp)
end Mine
end
section -- Ph20
open PySem PySem.Spec PySem.Calls PySem.W PyProof.Rows
namespace Mine
local macro_rules | `(tactic| walk_at "none") => `(tactic| fail "none")
theorem clear_Ph20 : True := by
  k_with_none
  w_top off
  exact True.intro

local macro_rules | `(tactic| k_all) => `(tactic| assumption)
local macro_rules | `(tactic| walk_at "call ref") => `(tactic| k_dflt (k_extra "my call"))
theorem ph20 (w : World) {mean : ExcName → Option Value} {mg mb : Str → Option Value} {fa : Addr} {cd : Value} {h₀ : Heap} {L : Addr} {m : Str → Option Value} {s : Shared} {rest : List Stmt} {Q : Flow → Shared → Prop} {E : Value → Shared → Prop}
    (B : Below callerA h₀ [] h₀) (F : Fr h₀ L s.heap m) (X : (Mine.hd.heap_39 w.params).In h₀) (T : Top topProg Mine.loose39 mean mg mb h₀) (C28 : CodeHd h₀ 28 24) (C63 : CodeHd h₀ 63 59) (C56 : CodeHd h₀ 56 52) {x sg wd : Int} {ws : List Int} {xs : List Value} {kx : Nat} {wl : Addr} {t1 t3 t5 : Tok} {oW : Obj} {FR tb : List (Addr × Obj)}
    (e1 : m (Str.ofString "worth") = some (.int x t1)) (e3 : m (Str.ofString "sign") = some (.int sg t3)) (e5 : m (Str.ofString "width") = some (.int wd t5))
    (hx0 : 0 ≤ sg * x) (hw0 : 1 ≤ wd) (hw1 : wd ≤ 64) (hxb : (Builtin.Int.intBits (sg * x) : Int) ≤ 64 * wd) (hsg : sg = 1 ∨ sg = -1) (hxs : (Builtin.Int.intBits x : Int) ≤ 64 * wd)
    (hx : IntsAre xs ws) (dW : oW.data = .cell (some (.ref wl))) (he : toD wd.toNat (sg * x) (numD (sg * x) wd) = ws) (hwl : ws.length ≤ 40)
    (hT : Tabs tb) (hS : Sep ((wl, W.listOf xs.toArray kx) :: (L + 1 + 1 + 1 + 1 + 1, oW) :: FR) tb)
    (N : News h₀ L s.heap ((wl, W.listOf xs.toArray kx) :: (L + 1 + 1 + 1 + 1 + 1, oW) :: (FR ++ tb)))
    (next : ∀ s' m' tb', Same s s' → Fr h₀ L s'.heap m' → Tabs tb' → News h₀ L s'.heap tb' → Q (.ret (.bool true)) s') : wpAny (model (PySem.Challenge.rw_ul0012_01).prog w) (callerA.deeper (envOfC (Str.ofString "law") lawSc L fa cd)) (execs (lawAt 20 :: rest) (envOfC (Str.ofString "law") lawSc L fa cd)) Q E s := by
  conv in lawAt 20 => whnf
  conv in (occs := *) lawSc => all_goals whnf
  revert X; k_fill; intro X
  have F0 := fr_put (Str.ofString "width") (fr_put (Str.ofString "sign") (fr_put (Str.ofString "worth") F e1) e3) e5
  clear F
  k_with "my call" => (refine' int2digits_use w (front := (wl, W.listOf xs.toArray kx) :: (L + 1 + 1 + 1 + 1 + 1, oW) :: FR) (tb := tb) ?b1 ?b2 ?b3 ?b4 ?b5 C56 ?nn hT hS ?a5 ?a6 hx0 hw0 hw1 hxb ?_; (case b1 => k_asm); (case b2 => k_asm); (case b3 => k_asm); (case b4 => k_asm); (case b5 => exact rfl); (case nn => k_asm); (case a5 => decide); (case a6 => decide); intro q9 h9 tk9 tb9 ys9 F9 N9 T9 S9 A9 D9 I9 X9 sb9; (try dsimp only [List.cons_append] at N9); (try dsimp only); (try k_fold))
  k_steps
  rw [decide_eq_true he]
  exact next _ _ tb9 ⟨rfl, fun h => h⟩ F9 T9 fun p hp => N9 p (.tail _ (.tail _ (.tail _ (List.mem_append_right _ hp))))
end Mine
end
section -- LawW
open PySem PySem.Spec PySem.Calls PySem.W PyProof.Rows
namespace Mine

theorem lawW (w : World) {mean : ExcName → Option Value} {mg mb : Str → Option Value} {fa : Addr} {cd : Value} {h₀ : Heap} {L : Addr} {m : Str → Option Value} {s : Shared} {rest : List Stmt} {Q : Flow → Shared → Prop} {E : Value → Shared → Prop}
    (B : Below callerA h₀ [] h₀) (F : Fr h₀ L s.heap m) (X : (Mine.hd.heap_39 w.params).In h₀) (T : Top topProg Mine.loose39 mean mg mb h₀) (C28 : CodeHd h₀ 28 24) (C63 : CodeHd h₀ 63 59) (C56 : CodeHd h₀ 56 52) {sl : Addr} {vs : List Value} {scr : List Int} {c1 c2 c3 c4 c5 : Obj} {tb : List (Addr × Obj)} (e1 : m (Str.ofString "script") = some (.ref sl)) (hl : h₀.IsList sl vs.toArray) (hv : IntsAre vs scr) (hlen : scr.length ≤ 63)
    (hc1 : c1.data = .cell none) (hc2 : c2.data = .cell none) (hc3 : c3.data = .cell none) (hc4 : c4.data = .cell none) (hc5 : c5.data = .cell none) (hT : Tabs tb) (P : Plain (stI scr) (wdI scr) (dsI scr))
    (N : News h₀ L s.heap ((L + 1 + 1 + 1 + 1 + 1, c1) :: (L + 1 + 1 + 1 + 1, c2) :: (L + 1 + 1 + 1, c3) :: (L + 1 + 1, c4) :: (L + 1, c5) :: tb))
    (next : ∀ s' m' tb', Same s s' → Fr h₀ L s'.heap m' → Tabs tb' → News h₀ L s'.heap tb' → Q (.ret (.bool true)) s') : wpAny (model (PySem.Challenge.rw_ul0012_01).prog w) (callerA.deeper (envOfC (Str.ofString "law") lawSc L fa cd)) (execs (lawAt 0 :: lawAt 1 :: lawAt 2 :: lawAt 3 :: lawAt 4 :: lawAt 5 :: lawAt 6 :: lawAt 7 :: lawAt 8 :: lawAt 9 :: lawAt 10 :: lawAt 11 :: lawAt 12 :: lawAt 13 :: lawAt 14 :: lawAt 15 :: lawAt 16 :: lawAt 17 :: lawAt 18 :: lawAt 19 :: lawAt 20 :: rest) (envOfC (Str.ofString "law") lawSc L fa cd)) Q E s := by
  refine ph0 w B F X T C28 C63 C56 e1 hl hv hlen hc1 hc2 hc3 hc4 hc5 hT N ?_
  intro s0 m0 D ys nl zs oN t1 t2 S0 F0 a1 a2 a3 dN hys hzs N0
  have hyl := hys.length
  refine ph6 w B F0 X T C28 C63 C56 a1 hys P.len ⟨_, hc4⟩ dN hzs hT N0 ?_
  intro s6 nl6 zs6 k6 c6 o6 S6 F6 hc6 d6 hz6 N6
  generalize hst : stI scr = st at *
  generalize hds : dsI scr = ds at *
  generalize hwd : wdI scr = wd at *
  have hn1 : 1 ≤ (numsI st ds).length := by rw [numsI_len]; exact Nat.one_le_two_pow
  have hn16 : (numsI st ds).length ≤ 16 := numsI_len_le P.len
  refine ph7 w B F6 X T C28 C63 C56 a2 P.st0 P.st1 N6 ?_
  intro s7 m7 t7 S7 F7 A7 g7 N7
  have g7' : m7 (Str.ofString "line") = some (.str (tx (lineI (numsI st ds) 0)) t7) := by rw [lineI, P.n0]; exact g7
  refine ph8 w B F7 X T C28 C63 C56 g7' P.nb hn1 hn16 hz6 d6 (sub_pk [0, 2, 1, 3, 4, 5, 6] 7 N7) ?_
  intro s8 m8 t8 S8 F8 A8 g8 N8
  refine ph9 w B F8 X T C28 C63 C56 hz6 hn16 d6 ⟨_, hc3⟩ hT ?_ (sub_pk [0, 2, 1, 3, 4, 5, 6] 7 N8) ?_
  · obtain ⟨v6, hc6⟩ := hc6
    simp only [List.forall_mem_cons]
    exact ⟨cell_nf d6, cell_nf hc6, cell_nf hc3, cell_nf hc2, cell_nf hc1, fun _ h => nomatch h⟩
  intro s9 ol ws oO tb9 S9 F9 dO hws T9 N9
  obtain ⟨FR, hFR⟩ : ∃ FR, FR = (ol, LCg.lst ws) :: (nl6, W.listOf zs6.toArray k6) :: (D, W.listOf ys.toArray ys.length) :: (L + 1, o6) :: (L + 1 + 1, c6) :: (L + 1 + 1 + 1, oO) :: (L + 1 + 1 + 1 + 1, c2) :: (L + 1 + 1 + 1 + 1 + 1, c1) :: [] := ⟨_, rfl⟩
  have hFt : ∀ tb', (ol, LCg.lst ws) :: (nl6, W.listOf zs6.toArray k6) :: (D, W.listOf ys.toArray ys.length) :: (L + 1, o6) :: (L + 1 + 1, c6) :: (L + 1 + 1 + 1, oO) :: (L + 1 + 1 + 1 + 1, c2) :: (L + 1 + 1 + 1 + 1 + 1, c1) :: tb' = FR ++ tb' := fun tb' => by rw [hFR]; rfl
  have hnf : ∀ q ∈ FR, isFields q.2.data = false := by
    obtain ⟨v6, hc6⟩ := hc6
    rw [hFR]
    simp only [List.forall_mem_cons]
    exact ⟨rfl, rfl, rfl, cell_nf d6, cell_nf hc6, cell_nf dO, cell_nf hc2, cell_nf hc1, fun _ h => nomatch h⟩
  rw [hFt] at N9
  have hll : (lineI (numsI st ds) ((numsI st ds).length - 1)).length ≤ 890 := Nat.le_trans (lineI_len P.nb _ (by omega)) (by omega)
  have hb10 : ∀ i, ∀ n ∈ nsI st ds i, 0 ≤ n ∧ n < 10 ^ 10 := fun i n hn => by
    have := P.nb n (selI_mem (Nat.le_refl _) hn)
    omega
  have hl16 : ∀ i, (nsI st ds i).length ≤ 16 := fun i => Nat.le_trans (selI_len _ _ _ _) hn16
  refine ph10 w B F9 X T C28 C63 C56 g8 T9 (sep_of N9 T9 hnf) hll (lineI_sig (fun n hn => (P.nb n hn).1) _ (by omega)) (hb10 0) (hb10 1) (hl16 0) (hl16 1) P.hw0 P.hw1 N9 ?_
  intro s10 m10 R q0 q1 xs0 xs1 tb10 S10 F10 A10 g10 hx0 hx1 T10 Sp10 N10
  rw [← hFt] at N10
  have aD : m10 (Str.ofString "distances") = some (.ref D) := A10.get _ (A8.get _ (A7.get _ a1 (by decide)) (by decide)) (by decide)
  have aS := A10.get _ (A8.get _ (A7.get _ a2 (by decide)) (by decide)) (by decide)
  have aW := A10.get _ (A8.get _ (A7.get _ a3 (by decide)) (by decide)) (by decide)
  refine ph11 w B F10 X T C28 C63 C56 aD hys P.sum0 P.sum1 (by rw [hyl]; exact P.len) (sub_pk [5, 0, 1, 2, 3, 4, 6, 7, 8, 9, 10] 11 N10) ?_
  intro s11 m11 dg xs S11 F11 A11 g11 hxs hdg N11
  have hdg' : ∀ p ∈ (R, W.listOf #[.ref q0, .ref q1] 0) :: (q1, LCg.lst xs1) :: (q0, LCg.lst xs0) :: (ol, LCg.lst ws) :: (nl6, W.listOf zs6.toArray k6) :: (D, W.listOf ys.toArray ys.length) :: (L + 1, o6) :: (L + 1 + 1, c6) :: (L + 1 + 1 + 1, oO) :: (L + 1 + 1 + 1 + 1, c2) :: (L + 1 + 1 + 1 + 1 + 1, c1) :: tb10, p.1 ≠ dg := sub_pk [1, 2, 3, 4, 5, 0, 6, 7, 8, 9, 10] 11 hdg
  refine ph12 w B F11 X T C28 C63 C56 (ns0 := nsI st ds 0) (ns1 := nsI st ds 1) (A11.get _ g10 (by decide)) (A11.get _ aS (by decide)) g11 hz6 hws hxs hx0 hx1 hn16 (by unfold onesI; rw [List.length_map, List.length_range]) d6 dO ⟨_, hc2⟩ rfl rfl (by rw [List.length_replicate]; exact P.b0) (by rw [List.length_replicate]; exact P.b1) (by rw [List.length_replicate]; have := P.sum1; omega) T10 hdg' (sub_pk [0, 2, 3, 4, 5, 6, 1, 7, 8, 9, 10, 11] 12 N11) ?_
  intro s12 m12 vs12 o12 S12 F12 A12 hc12 hv12 N12
  have hdl : (digI st ds).length ≤ 64 := by
    unfold digI; rw [digF_len, digF_len, List.length_replicate]; have := P.sum1; omega
  refine ph13 w B F12 X T C28 C63 C56 (dd := digI st ds) (A12.get _ (A11.get _ aW (by decide)) (by decide)) (A12.get _ g11 (by decide)) P.wd0 P.wd1 hv12 hdl P.dig ⟨_, hc1⟩ T10 ?_ N12 ?_
  · obtain ⟨v6, hc6⟩ := hc6
    obtain ⟨v12, hc12⟩ := hc12
    simp only [List.forall_mem_cons]
    exact ⟨cell_nf d6, cell_nf hc6, cell_nf dO, cell_nf hc12, cell_nf hc1, fun _ h => nomatch h⟩
  intro s13 m13 wl13 xs13 k13 oW tb13 u1 u2 u3 u4 S13 F13 A13 b1 b2 b3 b4 dW hx13 T13 N13
  have aD13 := A13.get _ (A12.get _ (A11.get _ aD (by decide)) (by decide)) (by decide)
  have aW13 := A13.get _ (A12.get _ (A11.get _ aW (by decide)) (by decide)) (by decide)
  refine ph18 w B F13 X T C28 C63 C56 aD13 b2 b1 b3 b4 hys hx13 P.len P.dist P.bpos P.bbit (fun i hi => P.bits i (by omega)) (fun i hi => P.rest i hi) (fun i hi => P.prod i (by omega)) (fun i hi => P.ways i (by omega)) ⟨_, d6⟩ hc6 ⟨_, dO⟩ hc12 dW T13 N13 ?_
  intro s18 m18 v1 v3 v4 wl18 xs18 k18 od oV tb18 S18 F18 A18 f1 f3 f4 hod dV hx18 T18 N18
  obtain ⟨FS, hFS⟩ : ∃ FS, FS = (wl18, W.listOf xs18.toArray k18) :: (D, W.listOf ys.toArray ys.length) :: (L + 1, o6) :: (L + 1 + 1, od) :: (L + 1 + 1 + 1, oO) :: (L + 1 + 1 + 1 + 1, o12) :: (L + 1 + 1 + 1 + 1 + 1, oV) :: [] := ⟨_, rfl⟩
  have hFu : ∀ tb', (wl18, W.listOf xs18.toArray k18) :: (D, W.listOf ys.toArray ys.length) :: (L + 1, o6) :: (L + 1 + 1, od) :: (L + 1 + 1 + 1, oO) :: (L + 1 + 1 + 1 + 1, o12) :: (L + 1 + 1 + 1 + 1 + 1, oV) :: tb' = FS ++ tb' := fun tb' => by rw [hFS]; rfl
  have hnf2 : ∀ q ∈ FS, isFields q.2.data = false := by
    obtain ⟨v6, hod⟩ := hod
    obtain ⟨v12, hc12⟩ := hc12
    rw [hFS]
    simp only [List.forall_mem_cons]
    exact ⟨rfl, rfl, cell_nf d6, cell_nf hod, cell_nf dO, cell_nf hc12, cell_nf dV, fun _ h => nomatch h⟩
  rw [hFu] at N18
  have hpr := P.prod ds.length (Nat.le_refl _)
  rw [List.take_length] at hpr
  have hwy := P.ways ds.length (Nat.le_refl _)
  rw [List.take_length] at hwy
  have b1' := A18.get _ b1 (by decide)
  have aW18 := A18.get _ aW13 (by decide)
  refine ph19 w B F18 X T C28 C63 C56 f1 b1' f3 f4 aW18 P.bpos P.bbit (P.bits _ (Nat.le_refl _)) P.last T18 (sep_of N18 T18 hnf2) P.sgn hpr N18 ?_
  intro s19 m19 tb19 S19 F19 A19 T19 Sp19 N19
  rw [← hFu] at N19
  rw [hFS] at Sp19
  have Sp20 : Sep ((wl18, W.listOf xs18.toArray k18) :: (L + 1 + 1 + 1 + 1 + 1, oV) :: (D, W.listOf ys.toArray ys.length) :: (L + 1, o6) :: (L + 1 + 1, od) :: (L + 1 + 1 + 1, oO) :: (L + 1 + 1 + 1 + 1, o12) :: []) tb19 := (sub_pk [0, 6, 1, 2, 3, 4, 5] 7 Sp19)
  refine ph20 w B F19 X T C28 C63 C56 (FR := (D, W.listOf ys.toArray ys.length) :: (L + 1, o6) :: (L + 1 + 1, od) :: (L + 1 + 1 + 1, oO) :: (L + 1 + 1 + 1 + 1, o12) :: []) (A19.get _ f1 (by decide)) (A19.get _ f3 (by decide)) (A19.get _ aW18 (by decide)) P.pos P.wd0 P.wd1 P.bit1 P.sgn P.bit2 hx18 dV P.ans hwy.2 T19 Sp20 (sub_pk [0, 6, 1, 2, 3, 4, 5] 7 N19) ?_
  intro s20 m20 tb20 S20 F20 T20 N20
  exact next s20 m20 tb20 (S0.trans (S6.trans (S7.trans (S8.trans (S9.trans (S10.trans (S11.trans (S12.trans (S13.trans (S18.trans (S19.trans S20))))))))))) F20 T20 N20
end Mine
end
section -- LawJ
open PySem PySem.Spec PySem.Calls PySem.W PyProof.Rows
namespace Mine
theorem clear_LawJ : True := by
  k_with_none
  w_top off
  exact True.intro
local macro_rules | `(tactic| kn_posts) => `(tactic| refine kn_postG (by assumption) (fun _ _ => rfl) ?_)
theorem law0 (hP : ∀ scr : List Int, Plain (stI scr) (wdI scr) (dsI scr)) : PySem.Challenge.rw_ul0012_01.Holds := by
  refine hd ?_
  k_go0
  rename List Int => scr
  rename_i hDf h1 tk1 c1 c2 c3 c4 c5 hc1 hc2 hc3 hc4 hc5 hX0 hX hT hK hF hC28 hC63 hN hl0
  replace hc1 : c1.data = .cell none := hc1
  replace hc2 : c2.data = .cell none := hc2
  replace hc3 : c3.data = .cell none := hc3
  replace hc4 : c4.data = .cell none := hc4
  replace hc5 : c5.data = .cell none := hc5
  rename IntsAre _ scr => hI
  rename ¬ ((63 : Nat) : Int) < scr.length => hlen
  rename _ = (#[] : Array GenState) => hgens
  have hTb : Tabs [(24, tabObj #[]), (52, tabObj #[]), (59, tabObj #[])] := ⟨[(24, tabObj #[])], [(52, tabObj #[])], [(59, tabObj #[])], ⟨rfl, .empty, .empty, .empty, by simp, by simp, by simp⟩⟩
  refine lawW _ (rest := []) hK hF hX hT hC28 hC63 codeHd (sl := _) (vs := _) (scr := scr) rfl lifted hI (by omega) hc1 hc2 hc3 hc4 hc5 hTb (hP scr) (sub_pk [0, 1, 2, 3, 4, 5, 7, 6] 8 hN) ?_
  intro s' m' tb' Sm F T N
  refine ⟨goodW_bool F rfl (raisesW_false ?hn) ?hp Sm.1, Sm.2 (by rw [hgens]; exact AllBare.empty), ?hg⟩
  · wrow_none_raised
  · refine' PySem.W.postW_of ?zs1 ?zv1 ?ze1
    case zs1 => o_shape
    case zv1 => wtm_val
    case ze1 => w_fin
  · obtain ⟨ta, tb, tc, y⟩ := T
    rw [y.eq] at N
    obtain ⟨p1, h1⟩ := y.a.mem
    obtain ⟨p2, h2⟩ := y.b.mem
    obtain ⟨p3, h3⟩ := y.c.mem
    exact ⟨GrownAt.of N (List.mem_append_left _ h1), GrownAt.of N (List.mem_append_right _ (List.mem_append_right _ h3)), GrownAt.of N (List.mem_append_right _ (List.mem_append_left _ h2)), True.intro⟩
end Mine
end
section -- PW1
open PySem PySem.Spec PySem.Calls PySem.W PyProof.Rows
namespace Mine
/-- the line of some numbers -/
noncomputable def lineN (ns : List Int) : List Nat := (ns.map fun n => 32 :: decN n).flatten
theorem lineN_snoc (ns : List Int) (n : Int) : lineN (ns ++ [n]) = lineN ns ++ (32 :: decN n) := by
  unfold lineN; rw [List.map_append, List.flatten_append]; simp
theorem unq_append : ∀ (xs ys : List Nat) (b : Bool), unq b (xs ++ ys) = unq b xs ++ unq (b ^^ (xs.count 34 % 2 == 1)) ys
  | [], ys, b => by cases b <;> simp [unq]
  | c :: r, ys, b => by
    by_cases h : c = 34
    · subst h
      rw [List.cons_append, List.count_cons_self]
      have hp : (((r.count 34 + 1) % 2 == 1) : Bool) = !((r.count 34 % 2 == 1) : Bool) := by
        rcases Nat.mod_two_eq_zero_or_one (r.count 34) with e | e
        · have : (r.count 34 + 1) % 2 = 1 := by omega
          rw [this, e]; rfl
        · have : (r.count 34 + 1) % 2 = 0 := by omega
          rw [this, e]; rfl
      rw [hp]
      cases b <;> simp [unq, unq_append r ys]
    · rw [List.cons_append, List.count_cons_of_ne h]
      cases b <;> simp [unq, h, unq_append r ys]
theorem unq_plain {xs : List Nat} (h : 34 ∉ xs) (b : Bool) : unq b xs = if b then [] else xs := by
  cases b with
  | false => rw [unq_none h]; rfl
  | true =>
    induction xs with
    | nil => rfl
    | cons c r ih =>
      rw [unq, if_neg (by intro e; exact h (by simp [e])), ih fun hm => h (by simp [hm])]; rfl
theorem unq_marks (k : Nat) : ∀ b, unq b (List.replicate k 34) = [] := by
  induction k with
  | zero => intro b; cases b <;> rfl
  | succ k ih => intro b; rw [List.replicate_succ]; cases b <;> simp [unq, ih]
theorem num_no34 {n : Int} (h : 0 ≤ n) : 34 ∉ (32 :: decN n) := by
  intro hm
  rcases List.mem_cons.mp hm with h1 | h1
  · omega
  · have := decN_dig h _ h1; omega
/-- what stands outside the marks of the line, and where the line ends -/
theorem unq_line {nums os : List Int} (hn : ∀ n ∈ nums, 0 ≤ n) (h0 : os.getD 0 0 = 0) (h01 : ∀ i, os.getD i 0 = 0 ∨ os.getD i 0 = 1)
    (hk : ∀ i, i + 1 < nums.length → (keptF 5 (i + 1) % 2 = 0 ↔ os.getD (i + 1) 0 ≠ os.getD i 0)) (b : Bool) :
    ∀ i, i < nums.length → unq b (lineI nums i) = lineN (selI nums os (if b then 1 else 0) (i + 1)) ∧ ((lineI nums i).count 34 % 2 == 1) = (os.getD i 0 == 1)
  | 0, h => by
    have hp := num_no34 (hn _ (getD_mem h))
    refine ⟨?_, ?_⟩
    · rw [lineI, unq_plain hp]
      cases b with
      | false => rw [if_neg Bool.false_ne_true, if_neg Bool.false_ne_true, selI_yes h0, selI_zero, List.nil_append]; simp [lineN]
      | true => rw [if_pos rfl, if_pos rfl, selI_no (by rw [h0]; decide), selI_zero]; rfl
    · rw [lineI, List.count_eq_zero_of_not_mem hp, h0]; rfl
  | i + 1, h => by
    obtain ⟨ih1, ih2⟩ := unq_line hn h0 h01 hk b i (by omega)
    have hp := num_no34 (hn _ (getD_mem h))
    have hz := List.count_eq_zero_of_not_mem hp
    have hki := hk i h
    -- the state ahead of the number
    have hst : ((lineI nums i ++ (if keptF 5 (i + 1) % 2 = 0 then [34] else [])).count 34 % 2 == 1) = (os.getD (i + 1) 0 == 1) := by
      rw [List.count_append]
      have ih2' : (lineI nums i).count 34 % 2 = 1 ↔ os.getD i 0 = 1 := by
        rw [← beq_iff_eq, ih2, beq_iff_eq]
      rcases h01 i with a | a <;> rcases h01 (i + 1) with c | c
      · rw [if_neg (by rw [hki, a, c]; simp), c]
        have : ¬ (lineI nums i).count 34 % 2 = 1 := by rw [ih2', a]; decide
        simpa using this
      · rw [if_pos (by rw [hki, a, c]; decide), c]
        have : ¬ (lineI nums i).count 34 % 2 = 1 := by rw [ih2', a]; decide
        have e : [34].count 34 = 1 := rfl
        rw [e]
        have : ((lineI nums i).count 34 + 1) % 2 = 1 := by omega
        rw [this]; rfl
      · rw [if_pos (by rw [hki, a, c]; decide), c]
        have : (lineI nums i).count 34 % 2 = 1 := by rw [ih2', a]
        have e : [34].count 34 = 1 := rfl
        rw [e]
        have : ((lineI nums i).count 34 + 1) % 2 = 0 := by omega
        rw [this]; rfl
      · rw [if_neg (by rw [hki, a, c]; simp), c]
        have : (lineI nums i).count 34 % 2 = 1 := by rw [ih2', a]
        simpa using this
    refine ⟨?_, ?_⟩
    · rw [lineI, unq_append, hst, unq_append, ih1, unq_plain hp]
      have hm : ∀ b', unq b' (if keptF 5 (i + 1) % 2 = 0 then [34] else []) = [] := by
        intro b'
        split
        · exact unq_marks 1 b'
        · exact unq_marks 0 b'
      rw [hm, List.append_nil]
      rcases h01 (i + 1) with c | c
      · cases b with
        | false =>
          have : (if (false : Bool) = true then (1 : Int) else 0) = 0 := rfl
          rw [this, selI_yes c, lineN_snoc, c]; simp
        | true =>
          have : (if (true : Bool) = true then (1 : Int) else 0) = 1 := rfl
          rw [this, selI_no (i := 1) (k := i + 1) (by rw [c]; decide), c]; simp
      · cases b with
        | false =>
          have : (if (false : Bool) = true then (1 : Int) else 0) = 0 := rfl
          rw [this, selI_no (i := 0) (k := i + 1) (by rw [c]; decide), c]; simp
        | true =>
          have : (if (true : Bool) = true then (1 : Int) else 0) = 1 := rfl
          rw [this, selI_yes c, lineN_snoc, c]; simp
    · rw [lineI, List.count_append, hz, Nat.add_zero]; exact hst
theorem unq_close (l : List Nat) : unq false (closeL l) = unq false l := by
  unfold closeL; rw [unq_append, unq_marks, List.append_nil]
theorem unq_close1 (l : List Nat) : unq false (closeL (34 :: l)) = unq true l := by
  rw [unq_close, unq, if_pos rfl]
theorem sp_digit : ∀ c : Nat, 48 ≤ c → c ≤ 57 → Unicode.isSpace c = false := by
  intro c h1 h2
  obtain ⟨k, rfl⟩ := Nat.le.dest h1
  exact (by decide +kernel : ∀ k, k < 10 → Unicode.isSpace (48 + k) = false) k (Nat.lt_of_add_lt_add_left (Nat.lt_succ_of_le h2))
theorem scan_digits : ∀ (l : List Nat) (ws : List Str) (r : List Nat), (∀ c ∈ l, 48 ≤ c ∧ c ≤ 57) → l.foldl KWd.step (ws, tx r) = (ws, tx (r ++ l))
  | [], ws, r, _ => by simp
  | c :: l, ws, r, h => by
    have e : KWd.step (ws, tx r) c = (ws, tx (r ++ [c])) := by
      unfold KWd.step
      rw [if_neg (by rw [sp_digit c (h c (.head _)).1 (h c (.head _)).2]; exact Bool.false_ne_true)]
      show (ws, tx r ++ tx [c]) = _
      rw [tx_add]
    rw [List.foldl_cons, e, scan_digits l ws (r ++ [c]) fun d hd => h d (.tail _ hd), List.append_assoc]; rfl
theorem scan_line : ∀ (ns : List Int) (ws : List Str) (r : List Nat), (∀ n ∈ ns, 0 ≤ n) →
    KWd.fin ((lineN ns).foldl KWd.step (ws, tx r)) = (if r.length = 0 then ws else ws ++ [tx r]) ++ ns.map (fun n => Str.ofString (toString n))
  | [], ws, r, _ => by
    show KWd.fin (ws, tx r) = _
    unfold KWd.fin
    simp only [tx_len, List.map_nil, List.append_nil]
  | n :: ns, ws, r, h => by
    have hn := h n (.head _)
    have e1 : lineN (n :: ns) = 32 :: (decN n ++ lineN ns) := by unfold lineN; simp
    have e2 : KWd.step (ws, tx r) 32 = ((if r.length = 0 then ws else ws ++ [tx r]), tx []) := by
      unfold KWd.step
      rw [if_pos (by decide +kernel)]
      simp only [tx_len]
      by_cases hr : r.length = 0
      · rw [if_pos hr, if_pos hr, List.eq_nil_of_length_eq_zero hr]
      · rw [if_neg hr, if_neg hr]; rfl
    rw [e1, List.foldl_cons, e2, List.foldl_append, scan_digits _ _ _ (decN_dig hn), List.nil_append, scan_line ns _ _ fun x hx => h x (.tail _ hx)]
    have h0 : ¬ (decN n).length = 0 := fun h0 => decN_ne n hn (List.eq_nil_of_length_eq_zero h0)
    rw [if_neg h0, List.map_cons, decN_tx, List.append_assoc]; rfl
theorem words_line {ns : List Int} (h : ∀ n ∈ ns, 0 ≤ n) : Txt.words (tx (lineN ns)) = ns.map (fun n => Str.ofString (toString n)) := by
  rw [KWd.words_scan]
  unfold KWd.scan
  have e : (tx (lineN ns)).cps.toList = lineN ns := by simp [tx]
  rw [e]
  show KWd.fin ((lineN ns).foldl KWd.step ([], tx [])) = _
  exact (scan_line ns [] [] h).trans (by simp)
end Mine
end
section -- PW2
open PySem
namespace Mine
theorem snocInd {P : List Int → Prop} (h0 : P []) (hs : ∀ l d, P l → P (l ++ [d])) (l : List Int) : P l := by
  have : ∀ r : List Int, P r.reverse := by
    intro r
    induction r with
    | nil => exact h0
    | cons d r ih => rw [List.reverse_cons]; exact hs _ _ ih
  have h := this l.reverse
  rwa [List.reverse_reverse] at h
/-- lists laid over each other -/
noncomputable def addL : List Int → List Int → List Int
  | [], ys => ys
  | x :: xs, [] => x :: xs
  | x :: xs, y :: ys => (x + y) :: addL xs ys
theorem addL_len : ∀ xs ys : List Int, (addL xs ys).length = max xs.length ys.length
  | [], ys => by simp [addL]
  | x :: xs, [] => by simp [addL]
  | x :: xs, y :: ys => by rw [addL, List.length_cons, addL_len xs ys, List.length_cons, List.length_cons]; omega
theorem addL_get : ∀ (xs ys : List Int) (t : Nat), (addL xs ys).getD t 0 = xs.getD t 0 + ys.getD t 0
  | [], ys, t => by simp [addL]
  | x :: xs, [], t => by simp [addL]
  | x :: xs, y :: ys, 0 => by simp [addL]
  | x :: xs, y :: ys, t + 1 => by
    have := addL_get xs ys t
    simpa [addL, List.getD_cons_succ] using this
theorem evalD_addL (w : Nat) : ∀ xs ys : List Int, evalD w (addL xs ys) = evalD w xs + evalD w ys
  | [], ys => by simp [addL, evalD]
  | x :: xs, [] => by simp [addL, evalD]
  | x :: xs, y :: ys => by
    rw [addL, evalD, evalD, evalD, evalD_addL w xs ys]
    rw [Int.mul_add]; omega
noncomputable def wayR (ws : List Int) : Nat → List Int
  | 0 => []
  | d + 1 => addL ws (0 :: wayR ws d)
theorem evalD_wayR (w : Nat) (ws : List Int) : ∀ d, evalD w (wayR ws d) * (2 ^ w - 1) = evalD w ws * (2 ^ (w * d) - 1)
  | 0 => by simp [wayR, evalD]
  | d + 1 => by
    have ih := evalD_wayR w ws d
    rw [wayR, evalD_addL, evalD]
    have e : (2 : Int) ^ (w * (d + 1)) = 2 ^ w * 2 ^ (w * d) := by rw [← Int.pow_add, Nat.mul_add, Nat.mul_one, Nat.add_comm]
    rw [e]
    grind
theorem evalD0_wayR (ws : List Int) : ∀ d : Nat, evalD 0 (wayR ws d) = evalD 0 ws * d
  | 0 => by simp [wayR, evalD]
  | d + 1 => by
    have ih := evalD0_wayR ws d
    rw [wayR, evalD_addL, evalD, ih]
    grind
theorem evalD0 : ∀ l : List Int, evalD 0 l = l.sum
  | [] => rfl
  | x :: r => by rw [evalD, evalD0 r, List.sum_cons]; simp
theorem wayR_len {ws : List Int} (h : 1 ≤ ws.length) : ∀ d, (wayR ws (d + 1)).length = ws.length + d
  | 0 => by rw [wayR, addL_len]; exact Nat.max_eq_left h
  | d + 1 => by rw [wayR, addL_len, List.length_cons, wayR_len h d]; exact Nat.max_eq_right (Nat.le_trans (Nat.le_add_right _ _) (Nat.le_succ _))
/-- the sum of a window -/
noncomputable def winN (ws : List Int) (a t : Nat) : Int := ((ws.drop a).take (min (t + 1) ws.length - a)).sum
theorem winN_step {ws : List Int} {a t : Nat} (h : a ≤ t + 1) : winN ws a (t + 1) = ws.getD (t + 1) 0 + winN ws a t := by
  unfold winN
  by_cases hl : t + 1 < ws.length
  · rw [Nat.min_eq_left hl, Nat.min_eq_left (Nat.le_of_lt hl), Nat.succ_sub h, List.take_add_one, List.sum_append, List.getElem?_drop, Nat.add_sub_of_le h, List.getD_eq_getElem?_getD, List.getElem?_eq_getElem hl, Int.add_comm]
    simp
  · have hl := Nat.le_of_not_lt hl
    rw [Nat.min_eq_right (Nat.le_succ_of_le hl), Nat.min_eq_right hl, List.getD_eq_getElem?_getD, List.getElem?_eq_none hl]; simp
theorem winN_zero (ws : List Int) : winN ws 0 0 = ws.getD 0 0 := by
  unfold winN
  cases ws with
  | nil => rfl
  | cons x r => simp
theorem winN_none (ws : List Int) (t : Nat) : winN ws (t + 1) t = 0 := by
  unfold winN
  rw [Nat.sub_eq_zero_of_le (Nat.min_le_left _ _)]; simp
theorem wayR_get (ws : List Int) : ∀ d t, (wayR ws d).getD t 0 = winN ws (t + 1 - d) t
  | 0, t => by rw [wayR, Nat.sub_zero, winN_none]; simp
  | d + 1, 0 => by rw [wayR, addL_get, Nat.add_sub_add_right, Nat.zero_sub, winN_zero]; simp
  | d + 1, t + 1 => by
    rw [wayR, addL_get, List.getD_cons_succ, wayR_get ws d t, Nat.add_sub_add_right, winN_step (Nat.sub_le _ _)]
theorem wayN_nat (ws : List Int) (e : Nat) : wayN ws ((e + 1 : Nat) : Int) = ws.length + e := by unfold wayN; omega
theorem wayT_nat (ws : List Int) (e t : Nat) : wayT ws ((e + 1 : Nat) : Int) (t : Int) = winN ws (t - e) t := by
  unfold wayT winN
  have e1 : (if (t : Int) - ((e + 1 : Nat) : Int) + 1 > 0 then (t : Int) - ((e + 1 : Nat) : Int) + 1 else 0).toNat = t - e := by split <;> omega
  rw [e1]; rfl
theorem nat_of {d : Int} (h : 1 ≤ d) : ∃ e : Nat, d = ((e + 1 : Nat) : Int) := ⟨d.toNat - 1, by omega⟩
theorem wayI_eq {ws : List Int} {d : Int} (h : 1 ≤ d) (hw : 1 ≤ ws.length) : wayI ws d = wayR ws d.toNat := by
  obtain ⟨e, rfl⟩ := nat_of h
  rw [Int.toNat_natCast]
  apply List.ext_getElem?
  intro t
  by_cases ht : t < ws.length + e
  · rw [wayI_get (by rw [wayN_nat]; exact ht), wayT_nat]
    have h2 : t < (wayR ws (e + 1)).length := by rw [wayR_len hw]; exact ht
    have h3 := wayR_get ws (e + 1) t
    rw [List.getD_eq_getElem?_getD, List.getElem?_eq_getElem h2, Nat.add_sub_add_right] at h3
    rw [List.getElem?_eq_getElem h2, ← h3]; rfl
  · have ht := Nat.le_of_not_lt ht
    rw [List.getElem?_eq_none (by rw [wayI_len, wayN_nat]; exact ht), List.getElem?_eq_none (by rw [wayR_len hw]; exact ht)]
theorem evalD_wayI {w : Nat} {ws : List Int} {d : Int} (h : 1 ≤ d) (hw : 1 ≤ ws.length) : evalD w (wayI ws d) * (2 ^ w - 1) = evalD w ws * (2 ^ (w * d.toNat) - 1) := by
  rw [wayI_eq h hw]; exact evalD_wayR w ws d.toNat
theorem sum_wayI {ws : List Int} {d : Int} (h : 1 ≤ d) (hw : 1 ≤ ws.length) : (wayI ws d).sum = ws.sum * d := by
  rw [← evalD0, wayI_eq h hw, evalD0_wayR, evalD0]
  congr 1; omega
theorem sum_nonneg : ∀ {l : List Int}, (∀ x ∈ l, 0 ≤ x) → 0 ≤ l.sum
  | [], _ => by simp
  | x :: r, h => by
    have := h x (.head _)
    have := sum_nonneg (l := r) fun y hy => h y (.tail _ hy)
    rw [List.sum_cons]; omega
theorem sum_part {l : List Int} (h : ∀ x ∈ l, 0 ≤ x) (a k : Nat) : 0 ≤ ((l.drop a).take k).sum ∧ ((l.drop a).take k).sum ≤ l.sum := by
  have h1 : l.sum = (l.take a).sum + (l.drop a).sum := by rw [← List.sum_append, List.take_append_drop]
  have h2 : (l.drop a).sum = ((l.drop a).take k).sum + ((l.drop a).drop k).sum := by rw [← List.sum_append, List.take_append_drop]
  have a1 := sum_nonneg (l := l.take a) fun x hx => h x (List.mem_of_mem_take hx)
  have a2 := sum_nonneg (l := (l.drop a).take k) fun x hx => h x (List.mem_of_mem_drop (List.mem_of_mem_take hx))
  have a3 := sum_nonneg (l := (l.drop a).drop k) fun x hx => h x (List.mem_of_mem_drop (List.mem_of_mem_drop hx))
  omega
theorem mem_wayI {ws : List Int} {d x : Int} (hd : 1 ≤ d) (h : ∀ x ∈ ws, 0 ≤ x) (hx : x ∈ wayI ws d) : 0 ≤ x ∧ x ≤ ws.sum := by
  obtain ⟨e, rfl⟩ := nat_of hd
  unfold wayI at hx
  obtain ⟨t, -, rfl⟩ := List.mem_map.mp hx
  rw [wayT_nat]
  exact sum_part h _ _
theorem last_wayI {ws : List Int} {d : Int} (hd : 1 ≤ d) (hw : 1 ≤ ws.length) (h : ws.getD (ws.length - 1) 0 = 1) : (wayI ws d).getD ((wayI ws d).length - 1) 0 = 1 := by
  obtain ⟨e, rfl⟩ := nat_of hd
  obtain ⟨k, hk⟩ : ∃ k, ws.length = k + 1 := ⟨_, (Nat.succ_pred_eq_of_pos hw).symm⟩
  rw [hk, Nat.add_sub_cancel] at h
  have hlt : k < ws.length := hk ▸ Nat.lt_succ_self k
  have e0 : k + 1 + e - 1 = k + e := by rw [Nat.add_right_comm, Nat.add_sub_cancel]
  rw [wayI_len, wayN_nat, hk, e0, List.getD_eq_getElem?_getD, wayI_get (by rw [wayN_nat, hk, Nat.add_right_comm]; exact Nat.lt_succ_self _), wayT_nat, Nat.add_sub_cancel]
  show winN _ _ _ = 1
  unfold winN
  rw [hk, Nat.min_eq_right (Nat.succ_le_succ (Nat.le_add_right k e)), show k.succ - k = 1 from Nat.add_sub_cancel_left k 1, List.drop_eq_getElem_cons hlt]
  rw [List.getD_eq_getElem?_getD, List.getElem?_eq_getElem hlt] at h
  have h' : ws[k] = 1 := h
  simp [h']
/-- what holds of the ways -/
structure WaysOk (ds : List Int) : Prop where
  pos : 1 ≤ (waysF ds).length
  len : ((waysF ds).length : Int) = 1 + ds.sum - ds.length
  nn : ∀ x ∈ waysF ds, 0 ≤ x
  last : (waysF ds).getD ((waysF ds).length - 1) 0 = 1
  sum : (waysF ds).sum = prodF ds
theorem waysF_snoc (l : List Int) (d : Int) : waysF (l ++ [d]) = wayI (waysF l) d := by
  unfold waysF; rw [List.foldl_append]; rfl
theorem prodF_snoc (l : List Int) (d : Int) : prodF (l ++ [d]) = prodF l * d := by
  unfold prodF; rw [List.foldl_append]; rfl
theorem waysOk : ∀ ds : List Int, (∀ d ∈ ds, 1 ≤ d) → WaysOk ds := by
  refine snocInd (P := fun ds => (∀ d ∈ ds, 1 ≤ d) → WaysOk ds) (fun _ => ⟨by decide, by decide, by decide, by decide, by decide⟩) fun l d ih h => ?_
  have hl := ih fun x hx => h x (List.mem_append_left _ hx)
  have hd := h d (List.mem_append_right _ (.head _))
  have h1 := hl.pos
  have hn : wayN (waysF l) d = (waysF l).length + (d.toNat - 1) := by unfold wayN; omega
  refine ⟨?_, ?_, ?_, ?_, ?_⟩
  · rw [waysF_snoc, wayI_len]; omega
  · rw [waysF_snoc, wayI_len, hn]
    have := hl.len
    simp only [List.sum_append, List.length_append, List.sum_cons, List.sum_nil, List.length_cons, List.length_nil]
    omega
  · rw [waysF_snoc]; exact fun x hx => (mem_wayI hd hl.nn hx).1
  · rw [waysF_snoc]; exact last_wayI hd h1 hl.last
  · rw [waysF_snoc, sum_wayI hd h1, hl.sum, prodF_snoc]
theorem prodF_bd : ∀ ds : List Int, (∀ d ∈ ds, 1 ≤ d ∧ d ≤ 5) → 1 ≤ prodF ds ∧ prodF ds ≤ 5 ^ ds.length := by
  refine snocInd (P := fun ds => (∀ d ∈ ds, 1 ≤ d ∧ d ≤ 5) → 1 ≤ prodF ds ∧ prodF ds ≤ 5 ^ ds.length) (fun _ => by decide) fun l d ih h => ?_
  obtain ⟨h1, h2⟩ := ih fun x hx => h x (List.mem_append_left _ hx)
  obtain ⟨d1, d5⟩ := h d (List.mem_append_right _ (.head _))
  rw [prodF_snoc, List.length_append, List.length_singleton, Int.pow_succ]
  have a1 : 1 * 1 ≤ prodF l * d := Int.mul_le_mul h1 d1 (by decide) (by omega)
  have a2 : prodF l * d ≤ 5 ^ l.length * 5 := Int.mul_le_mul h2 d5 (by omega) (by omega)
  omega
theorem pow5_le : ∀ {n : Nat}, n ≤ 4 → (5 : Int) ^ n ≤ 625
  | 0, _ => by decide
  | 1, _ => by decide
  | 2, _ => by decide
  | 3, _ => by decide
  | 4, _ => by decide
  | _ + 5, h => absurd h (Nat.not_le_of_lt (Nat.le_add_left 5 _))
theorem pow5_le3 : ∀ {n : Nat}, n ≤ 3 → (5 : Int) ^ n ≤ 125
  | 0, _ => by decide
  | 1, _ => by decide
  | 2, _ => by decide
  | 3, _ => by decide
  | _ + 4, h => absurd h (Nat.not_le_of_lt (Nat.le_add_left 4 _))
/-- no way counts more than 125 -/
theorem ways_small : ∀ ds : List Int, (∀ d ∈ ds, 1 ≤ d ∧ d ≤ 5) → ds.length ≤ 4 → ∀ x ∈ waysF ds, x ≤ 125 := by
  refine snocInd (P := fun ds => (∀ d ∈ ds, 1 ≤ d ∧ d ≤ 5) → ds.length ≤ 4 → ∀ x ∈ waysF ds, x ≤ 125) (fun _ _ => by decide) fun l d _ h hl x hx => ?_
  have hl' : ∀ d ∈ l, 1 ≤ d ∧ d ≤ 5 := fun x hx => h x (List.mem_append_left _ hx)
  have hw := waysOk l fun d hd => (hl' d hd).1
  rw [waysF_snoc] at hx
  have h1 := (mem_wayI (h d (List.mem_append_right _ (.head _))).1 hw.nn hx).2
  rw [hw.sum] at h1
  have h2 := (prodF_bd l hl').2
  rw [List.length_append, List.length_singleton] at hl
  have h3 := pow5_le3 (n := l.length) (by omega)
  omega
/-- the product of the differences -/
noncomputable def prX (w : Nat) (ds : List Int) : Int := ds.foldl (fun p d => p * (1 - 2 ^ (w * d.toNat))) 1
theorem prX_snoc (w : Nat) (l : List Int) (d : Int) : prX w (l ++ [d]) = prX w l * (1 - 2 ^ (w * d.toNat)) := by
  unfold prX; rw [List.foldl_append]; rfl
theorem prX_ways (w : Nat) : ∀ ds : List Int, (∀ d ∈ ds, 1 ≤ d) → prX w ds = signF ds.length * evalD w (waysF ds) * (2 ^ w - 1) ^ ds.length := by
  refine snocInd (P := fun ds => (∀ d ∈ ds, 1 ≤ d) → prX w ds = signF ds.length * evalD w (waysF ds) * (2 ^ w - 1) ^ ds.length) (fun _ => by simp [prX, signF, waysF, evalD]) fun l d ih h => ?_
  have hl : ∀ d ∈ l, 1 ≤ d := fun x hx => h x (List.mem_append_left _ hx)
  have ih := ih hl
  have hd := h d (List.mem_append_right _ (.head _))
  have e := evalD_wayI (w := w) hd (waysOk l hl).pos
  rw [prX_snoc, waysF_snoc, List.length_append, List.length_singleton, signF, Int.pow_succ, ih]
  generalize (2 : Int) ^ (w * d.toNat) = P at *
  generalize evalD w (wayI (waysF l) d) = V at *
  generalize evalD w (waysF l) = U at *
  generalize (2 : Int) ^ w - 1 = b at *
  generalize b ^ l.length = c at *
  generalize signF l.length = g at *
  grind
end Mine
end
section -- PW3
open PySem PySem.Spec PySem.Calls PySem.W PyProof.Rows
namespace Mine
theorem onesI_1 : onesI 1 = [0] := by decide +kernel
theorem onesI_2 : onesI 2 = [0, 1] := by decide +kernel
theorem onesI_4 : onesI 4 = [0, 1, 1, 0] := by decide +kernel
theorem onesI_8 : onesI 8 = [0, 1, 1, 0, 1, 0, 0, 1] := by decide +kernel
theorem onesI_16 : onesI 16 = [0, 1, 1, 0, 1, 0, 0, 1, 1, 0, 0, 1, 0, 1, 1, 0] := by decide +kernel
theorem no_le {n k : Nat} (h : n + (k + 1) ≤ k) : False := Nat.not_succ_le_self k (Nat.le_trans (Nat.le_add_left (k + 1) n) h)
theorem onesI_cases : ∀ {n : Nat}, n ≤ 4 → onesI (2 ^ n) = [0] ∧ n = 0 ∨ onesI (2 ^ n) = [0, 1] ∧ n = 1 ∨ onesI (2 ^ n) = [0, 1, 1, 0] ∧ n = 2 ∨ onesI (2 ^ n) = [0, 1, 1, 0, 1, 0, 0, 1] ∧ n = 3 ∨ onesI (2 ^ n) = [0, 1, 1, 0, 1, 0, 0, 1, 1, 0, 0, 1, 0, 1, 1, 0] ∧ n = 4
  | 0, _ => .inl ⟨onesI_1, rfl⟩
  | 1, _ => .inr (.inl ⟨onesI_2, rfl⟩)
  | 2, _ => .inr (.inr (.inl ⟨onesI_4, rfl⟩))
  | 3, _ => .inr (.inr (.inr (.inl ⟨onesI_8, rfl⟩)))
  | 4, _ => .inr (.inr (.inr (.inr ⟨onesI_16, rfl⟩)))
  | _ + 5, h => (no_le h).elim
theorem onesI_double : ∀ {n : Nat}, n ≤ 3 → onesI (2 ^ (n + 1)) = onesI (2 ^ n) ++ (onesI (2 ^ n)).map (fun x => 1 - x)
  | 0, _ => onesI_2.trans (by rw [show 2 ^ 0 = 1 from rfl, onesI_1]; rfl)
  | 1, _ => onesI_4.trans (by rw [show 2 ^ 1 = 2 from rfl, onesI_2]; rfl)
  | 2, _ => onesI_8.trans (by rw [show 2 ^ 2 = 4 from rfl, onesI_4]; rfl)
  | 3, _ => onesI_16.trans (by rw [show 2 ^ 3 = 8 from rfl, onesI_8]; rfl)
  | _ + 4, h => (no_le h).elim
theorem onesI_len (n : Nat) : (onesI n).length = n := by unfold onesI; rw [List.length_map, List.length_range]
theorem selI_double {nums os : List Int} {i d : Int} {k : Nat} (hn : nums.length = k) (ho : os.length = k) :
    selI (nums ++ nums.map (fun n => n + d)) (os ++ os.map (fun x => 1 - x)) i (k + k) = selI nums os i k ++ (selI nums os (1 - i) k).map (fun n => n + d) := by
  unfold selI
  rw [List.range_add, List.filter_append, List.map_append]
  congr 1
  · have e1 : (List.range k).filter (fun p => (os ++ os.map (fun x => 1 - x)).getD p 0 == i) = (List.range k).filter (fun p => os.getD p 0 == i) := by
      apply List.filter_congr
      intro p hp
      have := List.mem_range.mp hp
      rw [List.getD_eq_getElem?_getD, List.getElem?_append_left (by omega), ← List.getD_eq_getElem?_getD]
    rw [e1]
    apply List.map_congr_left
    intro p hp
    have := List.mem_range.mp (List.mem_filter.mp hp).1
    rw [List.getD_eq_getElem?_getD, List.getElem?_append_left (by omega), ← List.getD_eq_getElem?_getD]
  · rw [List.filter_map, List.map_map, List.map_map]
    have e1 : (List.range k).filter ((fun p => (os ++ os.map (fun x => 1 - x)).getD p 0 == i) ∘ fun x => k + x) = (List.range k).filter (fun p => os.getD p 0 == 1 - i) := by
      apply List.filter_congr
      intro p hp
      have hp := List.mem_range.mp hp
      show ((os ++ os.map (fun x => 1 - x)).getD (k + p) 0 == i) = _
      rw [List.getD_eq_getElem?_getD, List.getElem?_append_right (by omega), ho, Nat.add_sub_cancel_left, List.getElem?_map, List.getElem?_eq_getElem (by omega), List.getD_eq_getElem?_getD, List.getElem?_eq_getElem (by omega)]
      show ((1 - os[p] : Int) == i) = (os[p] == 1 - i)
      rw [Bool.eq_iff_iff, beq_iff_eq, beq_iff_eq]
      omega
    rw [e1]
    apply List.map_congr_left
    intro p hp
    have hp := List.mem_range.mp (List.mem_filter.mp hp).1
    show (nums ++ nums.map (fun n => n + d)).getD (k + p) 0 = nums.getD p 0 + d
    rw [List.getD_eq_getElem?_getD, List.getElem?_append_right (by omega), hn, Nat.add_sub_cancel_left, List.getElem?_map, List.getElem?_eq_getElem (by omega), List.getD_eq_getElem?_getD, List.getElem?_eq_getElem (by omega)]
    rfl
theorem nsI_snoc {st : Int} {l : List Int} {d i : Int} (h : l.length ≤ 3) : nsI st (l ++ [d]) i = nsI st l i ++ (nsI st l (1 - i)).map (fun n => n + d) := by
  have hk := numsI_len st l
  unfold nsI
  rw [numsI_snoc, List.length_append, List.length_map, hk]
  have e : 2 ^ l.length + 2 ^ l.length = 2 ^ (l.length + 1) := by rw [Nat.pow_succ]; omega
  rw [show onesI (2 ^ l.length + 2 ^ l.length) = onesI (2 ^ l.length) ++ (onesI (2 ^ l.length)).map (fun x => 1 - x) by rw [e]; exact onesI_double h]
  exact selI_double hk (onesI_len _)
theorem nsI_nil0 (st : Int) : nsI st [] 0 = [st] := by
  unfold nsI
  show selI [st] (onesI 1) 0 1 = [st]
  rw [onesI_1]; rfl
theorem nsI_nil1 (st : Int) : nsI st [] 1 = [] := by
  unfold nsI
  show selI [st] (onesI 1) 1 1 = []
  rw [onesI_1]; rfl
/-- the numbers lie within the sum -/
theorem nums_in (st : Int) : ∀ ds : List Int, (∀ d ∈ ds, 1 ≤ d) → ∀ n ∈ numsI st ds, st ≤ n ∧ n ≤ st + ds.sum := by
  refine snocInd (P := fun ds => (∀ d ∈ ds, 1 ≤ d) → ∀ n ∈ numsI st ds, st ≤ n ∧ n ≤ st + ds.sum) (fun _ n hn => ?_) fun l d ih h n hn => ?_
  · rw [List.mem_singleton.mp hn]; simp
  · have ih := ih fun x hx => h x (List.mem_append_left _ hx)
    have hd := h d (List.mem_append_right _ (.head _))
    rw [numsI_snoc] at hn
    rw [List.sum_append, List.sum_singleton]
    rcases List.mem_append.mp hn with hn | hn
    · have := ih n hn; omega
    · obtain ⟨x, hx, rfl⟩ := List.mem_map.mp hn
      have := ih x hx; omega
theorem nsI_mem {st : Int} {ds : List Int} {i n : Int} (h : n ∈ nsI st ds i) : n ∈ numsI st ds := selI_mem (Nat.le_refl _) h
/-- the numbers' powers -/
noncomputable def powS (w : Nat) (st : Int) (ns : List Int) : Int := (ns.map fun n => (2 : Int) ^ (w * (n - st).toNat)).sum
theorem powS_app (w : Nat) (st : Int) (a b : List Int) : powS w st (a ++ b) = powS w st a + powS w st b := by
  unfold powS; rw [List.map_append, List.sum_append]
theorem powS_shift (w : Nat) (st : Int) {d : Int} (hd : 0 ≤ d) : ∀ {ns : List Int}, (∀ n ∈ ns, st ≤ n) → powS w st (ns.map fun n => n + d) = 2 ^ (w * d.toNat) * powS w st ns
  | [], _ => by simp [powS]
  | n :: ns, h => by
    have ih := powS_shift w st hd (ns := ns) fun x hx => h x (.tail _ hx)
    have hn := h n (.head _)
    unfold powS at ih ⊢
    rw [List.map_cons, List.map_cons, List.sum_cons, ih, List.map_cons, List.sum_cons, Int.mul_add, ← Int.pow_add]
    congr 2
    rw [← Nat.mul_add, ← Int.toNat_add hd (Int.sub_nonneg_of_le hn), ← Int.add_sub_assoc, Int.add_comm d n]
theorem powS_dif (w : Nat) (st : Int) : ∀ ds : List Int, (∀ d ∈ ds, 1 ≤ d) → ds.length ≤ 4 → powS w st (nsI st ds 0) - powS w st (nsI st ds 1) = prX w ds := by
  refine snocInd (P := fun ds => (∀ d ∈ ds, 1 ≤ d) → ds.length ≤ 4 → powS w st (nsI st ds 0) - powS w st (nsI st ds 1) = prX w ds) (fun _ _ => ?_) fun l d ih h hl => ?_
  · rw [nsI_nil0, nsI_nil1]; simp [powS, prX]
  · have hl' : ∀ d ∈ l, 1 ≤ d := fun x hx => h x (List.mem_append_left _ hx)
    rw [List.length_append, List.length_singleton] at hl
    have ih := ih hl' (by omega)
    have hd := h d (List.mem_append_right _ (.head _))
    have hm : ∀ i, ∀ n ∈ nsI st l i, st ≤ n := fun i n hn => (nums_in st l hl' n (nsI_mem hn)).1
    rw [nsI_snoc (by omega), nsI_snoc (by omega), prX_snoc, ← ih, powS_app, powS_app, powS_shift w st (by omega) (hm _), powS_shift w st (by omega) (hm _)]
    show _ + 2 ^ (w * d.toNat) * powS w st (nsI st l 1) - (_ + 2 ^ (w * d.toNat) * powS w st (nsI st l 0)) = _
    grind
theorem evalD_set (w : Nat) : ∀ (l : List Int) (k : Nat) (v : Int), k < l.length → evalD w (l.set k v) = evalD w l + (v - l.getD k 0) * 2 ^ (w * k)
  | [], k, v, h => by simp at h
  | x :: r, 0, v, _ => by simp [evalD]; omega
  | x :: r, k + 1, v, h => by
    have ih := evalD_set w r k v (by simpa using h)
    rw [List.set_cons_succ, evalD, ih, evalD, List.getD_cons_succ]
    have e : (2 : Int) ^ (w * (k + 1)) = 2 ^ w * 2 ^ (w * k) := by rw [← Int.pow_add, Nat.mul_add, Nat.mul_one, Nat.add_comm]
    rw [e]; grind
theorem evalD_digF (w : Nat) (st i : Int) : ∀ (ns l : List Int), (∀ n ∈ ns, 0 ≤ n - st ∧ n - st < l.length) → evalD w (digF st i l ns) = evalD w l + (1 - 2 * i) * powS w st ns
  | [], l, _ => by simp [digF, powS]
  | n :: ns, l, h => by
    obtain ⟨h0, h1⟩ := h n (.head _)
    have ih := evalD_digF w st i ns (digStep st i l n) fun x hx => by
      have := h x (.tail _ hx)
      unfold digStep; rw [List.length_set]; exact this
    have e : digF st i l (n :: ns) = digF st i (digStep st i l n) ns := rfl
    rw [e, ih]
    unfold digStep
    rw [evalD_set w l _ _ (by omega)]
    unfold powS
    rw [List.map_cons, List.sum_cons]
    grind
theorem evalD_zeros (w : Nat) : ∀ k, evalD w (List.replicate k 0) = 0
  | 0 => rfl
  | k + 1 => by rw [List.replicate_succ, evalD, evalD_zeros w k]; simp
theorem ns_in {st : Int} {ds : List Int} (h : ∀ d ∈ ds, 1 ≤ d) (i : Int) : ∀ n ∈ nsI st ds i, 0 ≤ n - st ∧ n - st < (1 + ds.sum).toNat := fun n hn => by
  have := nums_in st ds h n (nsI_mem hn)
  omega
theorem evalD_digI (w : Nat) (st : Int) {ds : List Int} (h : ∀ d ∈ ds, 1 ≤ d) (hl : ds.length ≤ 4) : evalD w (digI st ds) = prX w ds := by
  unfold digI
  rw [evalD_digF w st 1 _ _ (by rw [digF_len, List.length_replicate]; exact ns_in h 1), evalD_digF w st 0 _ _ (by rw [List.length_replicate]; exact ns_in h 0), evalD_zeros, ← powS_dif w st ds h hl]
  omega
theorem digStep_bd {st i : Int} {l : List Int} {n : Int} {K : Nat} (hi : i = 0 ∨ i = 1) (h : ∀ d ∈ l, d.natAbs ≤ K) : ∀ d ∈ digStep st i l n, d.natAbs ≤ K + 1 := by
  intro d hd
  unfold digStep at hd
  rcases List.mem_or_eq_of_mem_set hd with hd | rfl
  · have := h d hd; omega
  · have h0 : (l.getD (n - st).toNat 0).natAbs ≤ K := by
      rw [List.getD_eq_getElem?_getD]
      cases e : l[(n - st).toNat]? with
      | none => simp
      | some v => exact h v (List.mem_of_getElem? e)
    omega
theorem digF_bd {st i : Int} (hi : i = 0 ∨ i = 1) : ∀ (ns l : List Int) (K : Nat), (∀ d ∈ l, d.natAbs ≤ K) → ∀ d ∈ digF st i l ns, d.natAbs ≤ K + ns.length
  | [], l, K, h => h
  | n :: ns, l, K, h => by
    have := digF_bd (st := st) hi ns (digStep st i l n) (K + 1) (digStep_bd hi h)
    intro d hd
    have := this d hd
    rw [List.length_cons]; omega
theorem digI_bd {st : Int} {ds : List Int} (hl : ds.length ≤ 4) : ∀ d ∈ digI st ds, d.natAbs ≤ 32 := by
  intro d hd
  have h16 : ∀ i, (nsI st ds i).length ≤ 16 := fun i => Nat.le_trans (selI_len _ _ _ _) (numsI_len_le hl)
  have h1 := digF_bd (st := st) (.inl rfl) (nsI st ds 0) (List.replicate (1 + ds.sum).toNat 0) 0 (fun d hd => by rw [List.eq_of_mem_replicate hd]; decide)
  have h2 := digF_bd (st := st) (.inr rfl) (nsI st ds 1) _ _ h1 d hd
  have := h16 0
  have := h16 1
  omega
end Mine
end
section -- PW4
open PySem PySem.Spec PySem.Calls PySem.W PyProof.Rows
namespace Mine
theorem toD_evalD (w : Nat) : ∀ ws : List Int, (∀ x ∈ ws, 0 ≤ x ∧ x < 2 ^ w) → toD w (evalD w ws) ws.length = ws
  | [], _ => rfl
  | x :: r, h => by
    obtain ⟨h0, h1⟩ := h x (.head _)
    have ih := toD_evalD w r fun y hy => h y (.tail _ hy)
    have hB : (0 : Int) < 2 ^ w := Int.pow_pos (by decide)
    rw [List.length_cons, toD, evalD, Int.add_mul_emod_self_left, Int.emod_eq_of_lt h0 h1, Int.add_mul_ediv_left _ _ (Int.ne_of_gt hB), Int.ediv_eq_zero_of_lt h0 h1, Int.zero_add, ih]
theorem evalD_up (w : Nat) : ∀ ws : List Int, (∀ x ∈ ws, 0 ≤ x ∧ x < 2 ^ w) → 0 ≤ evalD w ws ∧ evalD w ws < 2 ^ (w * ws.length)
  | [], _ => by simp [evalD]
  | x :: r, h => by
    obtain ⟨h0, h1⟩ := h x (.head _)
    obtain ⟨i0, i1⟩ := evalD_up w r fun y hy => h y (.tail _ hy)
    have hB : (0 : Int) < 2 ^ w := Int.pow_pos (by decide)
    have e : (2 : Int) ^ (w * (r.length + 1)) = 2 ^ w * 2 ^ (w * r.length) := by rw [← Int.pow_add, Nat.mul_add, Nat.mul_one, Nat.add_comm]
    rw [evalD, List.length_cons, e]
    have a1 : 0 ≤ (2 : Int) ^ w * evalD w r := Int.mul_nonneg (Int.le_of_lt hB) i0
    have a2 : (2 : Int) ^ w * (evalD w r + 1) ≤ 2 ^ w * 2 ^ (w * r.length) := Int.mul_le_mul_of_nonneg_left (by omega) (Int.le_of_lt hB)
    rw [Int.mul_add] at a2
    omega
theorem evalD_low (w : Nat) : ∀ ws : List Int, (∀ x ∈ ws, 0 ≤ x) → 1 ≤ ws.length → ws.getD (ws.length - 1) 0 = 1 → 2 ^ (w * (ws.length - 1)) ≤ evalD w ws
  | [], _, h, _ => by simp at h
  | [x], _, _, h => by
    have : x = 1 := by simpa using h
    subst this; simp [evalD]
  | x :: y :: r, hn, _, h => by
    have ih := evalD_low w (y :: r) (fun z hz => hn z (.tail _ hz)) (by simp) (by simpa [List.getD_cons_succ] using h)
    have hx := hn x (.head _)
    have hB : (0 : Int) < 2 ^ w := Int.pow_pos (by decide)
    have e : (2 : Int) ^ (w * ((x :: y :: r).length - 1)) = 2 ^ w * 2 ^ (w * ((y :: r).length - 1)) := by
      rw [← Int.pow_add]; congr 1
      simp only [List.length_cons, Nat.add_sub_cancel, Nat.mul_add, Nat.mul_one]; omega
    rw [e, evalD]
    have a2 := Int.mul_le_mul_of_nonneg_left ih (Int.le_of_lt hB)
    omega
theorem bits_lt {x : Int} {k : Nat} (h0 : 0 ≤ x) (h : x < 2 ^ k) : Builtin.Int.intBits x ≤ k := intBits_le_iff.mpr (by
  obtain ⟨m, rfl⟩ := Int.eq_ofNat_of_zero_le h0
  rw [Int.natAbs_natCast]; exact_mod_cast h)
theorem bits_ge {x : Int} {k : Nat} (h : 2 ^ k ≤ x) : k + 1 ≤ Builtin.Int.intBits x := by
  refine Nat.lt_of_not_le fun hle => ?_
  have h2 := intBits_le_iff.mp hle
  have h0 : 0 ≤ x := Int.le_trans (Int.le_of_lt (Int.pow_pos (by decide))) h
  obtain ⟨m, rfl⟩ := Int.eq_ofNat_of_zero_le h0
  rw [Int.natAbs_natCast] at h2
  have h3 : 2 ^ k ≤ m := by exact_mod_cast h
  omega
theorem numD_evalD {w : Nat} {ws : List Int} (hw : 1 ≤ w) (h : ∀ x ∈ ws, 0 ≤ x ∧ x < 2 ^ w) (h1 : 1 ≤ ws.length) (hl : ws.getD (ws.length - 1) 0 = 1) : numD (evalD w ws) (w : Int) = ws.length := by
  obtain ⟨u0, u1⟩ := evalD_up w ws h
  have b1 := bits_lt u0 u1
  have b2 := bits_ge (evalD_low w ws (fun x hx => (h x hx).1) h1 hl)
  unfold numD
  generalize Builtin.Int.intBits (evalD w ws) = n at *
  obtain ⟨k, hk⟩ : ∃ k, ws.length = k + 1 := ⟨ws.length - 1, by omega⟩
  rw [hk] at b1 b2 ⊢
  rw [Nat.add_sub_cancel] at b2
  have e : ((n : Int) + w - 1) / w = (k : Int) + 1 := by
    rw [Int.ediv_eq_iff_of_pos (by omega)]
    rw [Nat.mul_add, Nat.mul_one] at b1
    have c : ((w * k : Nat) : Int) = (w : Int) * k := by simp
    constructor
    · rw [Int.add_mul, Int.one_mul, Int.mul_comm]; omega
    · rw [Int.add_mul, Int.one_mul, Int.mul_comm]; omega
  rw [e]; omega
theorem evalD_mod (w : Nat) : ∀ l : List Int, ∃ k : Int, evalD w l = l.sum + (2 ^ w - 1) * k
  | [] => ⟨0, by simp [evalD]⟩
  | x :: r => by
    obtain ⟨k, hk⟩ := evalD_mod w r
    refine ⟨evalD w r + k, ?_⟩
    rw [evalD, List.sum_cons]
    generalize (2 : Int) ^ w = B at *
    generalize evalD w r = V at *
    grind
theorem signF_or : ∀ n, signF n = 1 ∨ signF n = -1
  | 0 => .inl rfl
  | n + 1 => by rw [signF]; rcases signF_or n with h | h <;> rw [h] <;> simp
/-- each worth on the way -/
theorem worthF_pow {b c : Int} (hb : 0 < b) : ∀ (n i : Nat), i ≤ n → worthF (c * b ^ n) b i = c * b ^ (n - i)
  | n, 0, _ => rfl
  | n, i + 1, h => by
    rw [worthF, worthF_pow hb n i (by omega)]
    have e : n - i = (n - (i + 1)) + 1 := by omega
    rw [e, Int.pow_succ, ← Int.mul_assoc, Int.mul_ediv_cancel _ (Int.ne_of_gt hb)]
theorem intBits_div {x b : Int} {k : Nat} (hb : 0 < b) (h : Builtin.Int.intBits x ≤ k) (hd : x % b = 0) : Builtin.Int.intBits (x / b) ≤ k := by
  refine intBits_le_iff.mpr (Nat.lt_of_le_of_lt ?_ (intBits_le_iff.mp h))
  have e := Int.emod_add_mul_ediv x b
  rw [hd, Int.zero_add] at e
  have : x.natAbs = b.natAbs * (x / b).natAbs := by rw [← Int.natAbs_mul, e]
  rw [this]
  exact Nat.le_mul_of_pos_left _ (by omega)
theorem sum_le20 : ∀ ds : List Int, (∀ d ∈ ds, 1 ≤ d ∧ d ≤ 5) → 0 ≤ ds.sum ∧ ds.sum ≤ 5 * ds.length
  | [], _ => by simp
  | d :: r, h => by
    have h1 := h d (.head _)
    have := sum_le20 r fun x hx => h x (.tail _ hx)
    rw [List.sum_cons, List.length_cons]; omega
theorem plain_of {st wd : Int} {ds : List Int} (h0 : 0 ≤ st) (h1 : st < 10 ^ 6) (w0 : 8 ≤ wd) (w1 : wd ≤ 47) (hl : ds.length ≤ 4) (hd : ∀ d ∈ ds, 1 ≤ d ∧ d ≤ 5) : Plain st wd ds := by
  have hd1 : ∀ d ∈ ds, 1 ≤ d := fun d h => (hd d h).1
  obtain ⟨w, rfl⟩ := Int.eq_ofNat_of_zero_le (show 0 ≤ wd by omega)
  obtain ⟨s0, s1⟩ := sum_le20 ds hd
  have hlen := numsI_len st ds
  have hin := nums_in st ds hd1
  have hnb : ∀ n ∈ numsI st ds, 0 ≤ n ∧ n < 10 ^ 7 := fun n hn => by have := hin n hn; omega
  have hB8 : (2 : Int) ^ 8 ≤ 2 ^ w := by exact_mod_cast Nat.pow_le_pow_right (n := 2) (by decide) (show 8 ≤ w by omega)
  have hbpos : (0 : Int) < 2 ^ w - 1 := by omega
  have hW := waysOk ds hd1
  have hsm : ∀ x ∈ waysF ds, 0 ≤ x ∧ x < 2 ^ w := fun x hx => by
    have := ways_small ds hd hl x hx
    have := hW.nn x hx
    omega
  obtain ⟨v0, v1⟩ := evalD_up w _ hsm
  have hx0 : evalD w (digI st ds) = signF ds.length * evalD w (waysF ds) * (2 ^ w - 1) ^ ds.length := by
    rw [evalD_digI w st hd1 hl, prX_ways w ds hd1]
  have hwr : ∀ i, i ≤ ds.length → wrtI st (w : Int) ds i = signF ds.length * evalD w (waysF ds) * (2 ^ w - 1) ^ (ds.length - i) := fun i hi => by
    unfold wrtI
    rw [Int.toNat_natCast, hx0]
    exact worthF_pow hbpos _ _ hi
  have hrest : ∀ i, i < ds.length → wrtI st (w : Int) ds i % (2 ^ w - 1) = 0 := fun i hi => by
    rw [hwr i (by omega)]
    have e : ds.length - i = (ds.length - i - 1) + 1 := by omega
    rw [e, Int.pow_succ, ← Int.mul_assoc]
    exact Int.mul_emod_left _ _
  have hbw : Builtin.Int.intBits ((2 : Int) ^ w - 1) = w := by
    have a1 : Builtin.Int.intBits ((2 : Int) ^ w - 1) ≤ w := bits_lt (by omega) (by omega)
    have a2 : w - 1 + 1 ≤ Builtin.Int.intBits ((2 : Int) ^ w - 1) := by
      refine bits_ge ?_
      have e : (2 : Int) ^ w = 2 * 2 ^ (w - 1) := by
        rw [show w = (w - 1) + 1 by omega, Int.pow_succ, Nat.add_sub_cancel, Int.mul_comm]
      have : (1 : Int) ≤ 2 ^ (w - 1) := Int.pow_pos (by decide)
      omega
    omega
  have hdl : (digI st ds).length ≤ 21 := by unfold digI; rw [digF_len, digF_len, List.length_replicate]; omega
  have hdb : ∀ d ∈ digI st ds, d.natAbs < 2 ^ 100 := fun d hx => Nat.lt_of_le_of_lt (digI_bd hl d hx) (by decide)
  have hbits : ∀ i, i ≤ ds.length → Builtin.Int.intBits (wrtI st (w : Int) ds i) ≤ 64 * w := by
    intro i
    induction i with
    | zero =>
      intro _
      refine intBits_le_iff.mpr (Nat.lt_of_lt_of_le (evalD_lt (w := w) hdb) (Nat.pow_le_pow_right (by decide) ?_))
      have : (w + 1) * (digI st ds).length ≤ (w + 1) * 21 := Nat.mul_le_mul_left _ hdl
      omega
    | succ i ih =>
      intro hi
      exact intBits_div hbpos (ih (by omega)) (hrest i hi)
  have hn := hwr ds.length (Nat.le_refl _)
  rw [Nat.sub_self, Int.pow_zero, Int.mul_one] at hn
  have hsg := signF_or ds.length
  have hsx : signF ds.length * wrtI st (w : Int) ds ds.length = evalD w (waysF ds) := by
    rw [hn, ← Int.mul_assoc]
    rcases hsg with e | e <;> rw [e] <;> simp
  have hpd := prodF_bd
  have hc := onesI_cases hl
  have hos : onesI (numsI st ds).length = onesI (2 ^ ds.length) := by rw [hlen]
  have hsg0 : (onesI (numsI st ds).length).getD 0 0 = 0 := by
    rw [hos]; rcases hc with ⟨e, -⟩ | ⟨e, -⟩ | ⟨e, -⟩ | ⟨e, -⟩ | ⟨e, -⟩ <;> rw [e] <;> rfl
  have h01 : ∀ i, (onesI (numsI st ds).length).getD i 0 = 0 ∨ (onesI (numsI st ds).length).getD i 0 = 1 := by
    have hall : ∀ x ∈ onesI (numsI st ds).length, x = 0 ∨ x = 1 := by
      rw [hos]; rcases hc with ⟨e, -⟩ | ⟨e, -⟩ | ⟨e, -⟩ | ⟨e, -⟩ | ⟨e, -⟩ <;> rw [e] <;> decide
    intro i
    rw [List.getD_eq_getElem?_getD]
    cases e : (onesI (numsI st ds).length)[i]? with
    | none => exact .inl rfl
    | some v => exact hall v (List.mem_of_getElem? e)
  have hk : ∀ i, i + 1 < (numsI st ds).length → (keptF 5 (i + 1) % 2 = 0 ↔ (onesI (numsI st ds).length).getD (i + 1) 0 ≠ (onesI (numsI st ds).length).getD i 0) := by
    rw [hos, hlen]
    rcases hc with ⟨e, e2⟩ | ⟨e, e2⟩ | ⟨e, e2⟩ | ⟨e, e2⟩ | ⟨e, e2⟩ <;> rw [e, e2]
    · intro i hi; omega
    · have : ∀ i, i < 1 → (keptF 5 (i + 1) % 2 = 0 ↔ ([0, 1] : List Int).getD (i + 1) 0 ≠ ([0, 1] : List Int).getD i 0) := by decide
      exact fun i hi => this i (by omega)
    · have : ∀ i, i < 3 → (keptF 5 (i + 1) % 2 = 0 ↔ ([0, 1, 1, 0] : List Int).getD (i + 1) 0 ≠ ([0, 1, 1, 0] : List Int).getD i 0) := by decide
      exact fun i hi => this i (by omega)
    · have : ∀ i, i < 7 → (keptF 5 (i + 1) % 2 = 0 ↔ ([0, 1, 1, 0, 1, 0, 0, 1] : List Int).getD (i + 1) 0 ≠ ([0, 1, 1, 0, 1, 0, 0, 1] : List Int).getD i 0) := by decide
      exact fun i hi => this i (by omega)
    · have : ∀ i, i < 15 → (keptF 5 (i + 1) % 2 = 0 ↔ ([0, 1, 1, 0, 1, 0, 0, 1, 1, 0, 0, 1, 0, 1, 1, 0] : List Int).getD (i + 1) 0 ≠ ([0, 1, 1, 0, 1, 0, 0, 1, 1, 0, 0, 1, 0, 1, 1, 0] : List Int).getD i 0) := by decide
      exact fun i hi => this i (by omega)
  have hlp : 1 ≤ (numsI st ds).length := by rw [hlen]; exact Nat.one_le_two_pow
  have hq : (numsI st ds).length - 1 + 1 = (numsI st ds).length := by omega
  have hnn : ∀ i, ∀ n ∈ nsI st ds i, 0 ≤ n := fun i n hn => (hnb n (nsI_mem hn)).1
  have hline := fun b => (unq_line (nums := numsI st ds) (os := onesI (numsI st ds).length) (fun n hn => (hnb n hn).1) hsg0 h01 hk b ((numsI st ds).length - 1) (by omega)).1
  have hw0 : Txt.words (tx (unq false (closeL (lineI (numsI st ds) ((numsI st ds).length - 1))))) = (nsI st ds 0).map (fun n => Str.ofString (toString n)) := by
    rw [unq_close, hline false, hq]
    exact words_line (hnn 0)
  have hw1 : Txt.words (tx (unq false (closeL (34 :: lineI (numsI st ds) ((numsI st ds).length - 1))))) = (nsI st ds 1).map (fun n => Str.ofString (toString n)) := by
    rw [unq_close1, hline true, hq]
    exact words_line (hnn 1)
  have hn0 : ∀ ds : List Int, (numsI st ds).getD 0 0 = st := by
    refine snocInd (by rfl) fun l d ih => ?_
    have : 1 ≤ (numsI st l).length := by rw [numsI_len]; exact Nat.one_le_two_pow
    rw [numsI_snoc, List.getD_eq_getElem?_getD, List.getElem?_append_left (by omega), ← List.getD_eq_getElem?_getD, ih]
  have htk : ∀ i, ∀ d ∈ ds.take i, 1 ≤ d ∧ d ≤ 5 := fun i d h => hd d (List.mem_of_mem_take h)
  have htl : ∀ i, (ds.take i).length ≤ 4 := fun i => by rw [List.length_take]; omega
  have q1 : (0 : Int) < 2 ^ (w : Int).toNat - 1 := by rw [Int.toNat_natCast]; exact hbpos
  have q2 : Builtin.Int.intBits ((2 : Int) ^ (w : Int).toNat - 1) ≤ 64 := by rw [Int.toNat_natCast, hbw]; omega
  have q3 : ∀ i, i ≤ ds.length → Builtin.Int.intBits (wrtI st (w : Int) ds i) ≤ 64 * Builtin.Int.intBits ((2 : Int) ^ (w : Int).toNat - 1) := fun i hi => by rw [Int.toNat_natCast, hbw]; exact hbits i hi
  have q4 : ∀ i, i < ds.length → wrtI st (w : Int) ds i % (2 ^ (w : Int).toNat - 1) = 0 := fun i hi => by rw [Int.toNat_natCast]; exact hrest i hi
  have q5 : 0 ≤ signF ds.length * wrtI st (w : Int) ds ds.length := by rw [hsx]; exact v0
  refine ⟨h0, h1, (by omega), (by omega), hl, hd, hn0 ds, hnb, hw0, hw1, ns_in hd1 0, ns_in hd1 1, s0, (by omega), hdb, q1, q2, q3, q4, fun i _ => ?_, fun i _ => ?_, ?_, hsg, q5, ?_, ?_, ?_⟩
  · have a1 := hpd (ds.take i) (htk i)
    have a2 := pow5_le (htl i)
    omega
  · have a := waysOk (ds.take i) fun d h => (htk i d h).1
    have b := sum_le20 (ds.take i) (htk i)
    have c := htl i
    have := a.len
    exact ⟨a.pos, by omega⟩
  · rw [Int.toNat_natCast, hn]
    obtain ⟨k, hk⟩ := evalD_mod w (waysF ds)
    rw [hk, hW.sum, Int.mul_add, ← Int.mul_assoc, Int.mul_comm (signF ds.length) (2 ^ w - 1), Int.mul_assoc, Int.add_mul_emod_self_left]
  · rw [hsx]
    have := bits_lt v0 v1
    have a := hW.len
    have : w * (waysF ds).length ≤ w * 40 := Nat.mul_le_mul_left _ (by omega)
    omega
  · have := hbits ds.length (Nat.le_refl _)
    omega
  · rw [hsx, Int.toNat_natCast, numD_evalD (by omega) hsm hW.pos hW.last]
    exact toD_evalD w _ hsm
theorem plain_ok (scr : List Int) : Plain (stI scr) (wdI scr) (dsI scr) := by
  have e5 : ∀ x : Int, 0 ≤ x.fmod 5 ∧ x.fmod 5 < 5 := fun x => by rw [Int.fmod_eq_emod_of_nonneg _ (by decide)]; omega
  refine plain_of ?_ ?_ ?_ ?_ ?_ ?_
  · unfold stI; rw [Int.fmod_eq_emod_of_nonneg _ (by decide)]; exact Int.emod_nonneg _ (by decide)
  · unfold stI; rw [Int.fmod_eq_emod_of_nonneg _ (by decide)]; exact Int.emod_lt_of_pos _ (by decide)
  · unfold wdI; rw [Int.fmod_eq_emod_of_nonneg _ (by decide)]; omega
  · unfold wdI; rw [Int.fmod_eq_emod_of_nonneg _ (by decide)]; omega
  · unfold dsI
    have : (2 + (scr.sum + 1).fmod 3).toNat ≤ 4 := by rw [Int.fmod_eq_emod_of_nonneg _ (by decide)]; omega
    rw [List.length_map, List.length_take]; omega
  · intro d hd
    unfold dsI at hd
    obtain ⟨x, -, rfl⟩ := List.mem_map.mp hd
    have := e5 x
    omega
end Mine
end
theorem PySem.Challenge.cw_ul0012_01_holds : PySem.Challenge.rw_ul0012_01.Holds :=
  Mine.law0 Mine.plain_ok
