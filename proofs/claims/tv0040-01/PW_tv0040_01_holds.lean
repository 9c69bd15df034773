import PyProof.Rows.All
import Wide.All
import OpenK.AllK
import Wide.FinOn
import PySem.Challenge.RW_tv0040_01
set_option Elab.async false
open PySem PySem.W PyProof.Rows
set_option Elab.async false
set_option maxRecDepth 100000
set_option maxHeartbeats 8000000
namespace Mine
open_top hd for PySem.Challenge.rw_tv0040_01
end Mine
set_option maxRecDepth 100000
set_option linter.unusedVariables false
namespace Mine
open PySem PySem.Spec PySem.Calls PyProof.Rows PySem.W

/-! ## heaps that keep, the part of a heap that is not one's own -/
def Kp (h h' : Heap) : Prop := ∀ b o, h.get? b = some o → h'.get? b = some o
theorem Kp.refl (h : Heap) : Kp h h := fun _ _ e => e
theorem Kp.trans {a b c : Heap} (x : Kp a b) (y : Kp b c) : Kp a c := fun d o e => y d o (x d o e)

theorem kps_refl (s : Shared) : Keeps s s := ⟨s.heap, s.toks, rfl, fun _ _ e => e⟩
theorem kps_kp {s s' : Shared} (k : Keeps s s') : Kp s.heap s'.heap := by
  obtain ⟨h, tk, rfl, k⟩ := k
  exact k
theorem kps_trans {a b c : Shared} (x : Keeps a b) (y : Keeps b c) : Keeps a c := by
  obtain ⟨h, tk, rfl, k⟩ := x
  obtain ⟨h', tk', rfl, k'⟩ := y
  exact ⟨h', tk', rfl, fun d o e => k' d o (k d o e)⟩
theorem kps_mk {s : Shared} {h : Heap} {tk : Nat} (k : Kp s.heap h) : Keeps s { s with heap := h, toks := tk } := ⟨h, tk, rfl, k⟩
theorem kps_tok {s : Shared} {tk : Nat} : Keeps s { s with toks := tk } := ⟨s.heap, tk, rfl, fun _ _ e => e⟩
theorem kps_push {s : Shared} {o : Obj} : Keeps s { s with heap := s.heap.push o } := ⟨_, s.toks, rfl, fun _ _ e => Heap.get?_push_of_some _ e⟩
theorem kps_heap {s : Shared} {h : Heap} (k : Kp s.heap h) : Keeps s { s with heap := h } := ⟨h, s.toks, rfl, k⟩

abbrev Vw (W : List Addr) (h : Heap) : Heap := hideAll h W
theorem vw_of {W : List Addr} {h : Heap} {b : Addr} {o : Obj} (e : (Vw W h).get? b = some o) : h.get? b = some o ∧ b ∉ W :=
  ⟨of_hideAll W e, fun m => by rw [hideAll_none W m] at e; cases e⟩
theorem vw_to {W : List Addr} {h : Heap} {b : Addr} {o : Obj} (e : h.get? b = some o) (n : b ∉ W) : (Vw W h).get? b = some o := hideAll_get W e n
theorem vw_kp (W : List Addr) (h : Heap) : Kp (Vw W h) h := fun _ _ e => (vw_of e).1
theorem vw_mono {W : List Addr} {h h' : Heap} (k : Kp h h') : Kp (Vw W h) (Vw W h') := fun b o e => vw_to (k b o (vw_of e).1) (vw_of e).2
theorem vw_sub {W W' : List Addr} {h : Heap} (hs : ∀ b ∈ W, b ∈ W') : Kp (Vw W' h) (Vw W h) := fun _ _ e => vw_to (vw_of e).1 fun m => (vw_of e).2 (hs _ m)

/-- no address of W will be given out again -/
def WOK (W : List Addr) (h : Heap) : Prop := ∀ b ∈ W, ∃ c o, @LE.le Nat _ b c ∧ h.get? c = some o
theorem WOK.mono {W : List Addr} {h h' : Heap} (x : WOK W h) (k : Kp h h') : WOK W h' := fun b m => let ⟨c, o, l, e⟩ := x b m; ⟨c, o, l, k c o e⟩
theorem WOK.not_mem {W : List Addr} {h : Heap} (x : WOK W h) : h.objs.size ∉ W := fun m => by
  obtain ⟨c, o, l, e⟩ := x _ m
  exact absurd (Heap.lt_size e) (Nat.not_lt.mpr l)
theorem WOK.fresh {W : List Addr} {h : Heap} {a : Addr} (x : WOK W h) (l : @LE.le Nat _ h.objs.size a) : a ∉ W := fun m => by
  obtain ⟨c, o, l', e⟩ := x _ m
  exact absurd (Heap.lt_size e) (Nat.not_lt.mpr (Nat.le_trans l l'))
theorem WOK.nil {h : Heap} : WOK [] h := fun _ m => nomatch m
theorem WOK.cons {W : List Addr} {h : Heap} {a : Addr} {o : Obj} (x : WOK W h) (e : h.get? a = some o) : WOK (a :: W) h := fun b m => by
  rcases List.mem_cons.mp m with rfl | m
  · exact ⟨_, o, Nat.le_refl _, e⟩
  · exact x b m
theorem get_size_none (h : Heap) {a : Addr} (ha : h.objs.size ≤ a) : h.get? a = none := by
  cases e : h.get? a with
  | none => rfl
  | some o => exact absurd (Heap.lt_size e) (Nat.not_lt.mpr ha)

/-! ## what is said of a value -/
structure VP where
  p : Value → Heap → Prop
  mono : ∀ {v : Value} {h h' : Heap}, Kp h h' → p v h → p v h'
def D (d : PyData) : VP := ⟨fun v h => ∃ as, Reads h v d as, fun k ⟨as, r⟩ => ⟨as, Reads.keeps k r⟩⟩
def Is (u : Value) : VP := ⟨fun v _ => v = u, fun _ e => e⟩
def AnyV : VP := ⟨fun _ _ => True, fun _ _ => trivial⟩

inductive VAll (h : Heap) : List VP → List Value → Prop where
  | nil : VAll h [] []
  | cons {P : VP} {Ps : List VP} {v : Value} {vs : List Value} : P.p v h → VAll h Ps vs → VAll h (P :: Ps) (v :: vs)
theorem VAll.mono {h h' : Heap} (k : Kp h h') : ∀ {Ps : List VP} {vs : List Value}, VAll h Ps vs → VAll h' Ps vs
  | _, _, .nil => .nil
  | _, _, .cons a b => .cons (VP.mono _ k a) (VAll.mono k b)
theorem VAll.length {h : Heap} : ∀ {Ps : List VP} {vs : List Value}, VAll h Ps vs → vs.length = Ps.length
  | _, _, .nil => rfl
  | _, _, .cons _ b => by rw [List.length_cons, List.length_cons, VAll.length b]
theorem VAll.get {h : Heap} : ∀ {Ps : List VP} {vs : List Value}, VAll h Ps vs → ∀ (i : Nat) {P : VP}, Ps[i]? = some P → ∃ v, vs[i]? = some v ∧ P.p v h
  | _, _, .nil, i, P, e => by simp at e
  | _, _, .cons a b, 0, P, e => by simp at e; subst e; exact ⟨_, rfl, a⟩
  | _, _, .cons a b, i + 1, P, e => by simp at e; simpa using VAll.get b i e
theorem VAll.append {h : Heap} : ∀ {Ps Ps' : List VP} {vs vs' : List Value}, VAll h Ps vs → VAll h Ps' vs' → VAll h (Ps ++ Ps') (vs ++ vs')
  | _, _, _, _, .nil, y => y
  | _, _, _, _, .cons a b, y => .cons a (VAll.append b y)
theorem vall_D {h : Heap} : ∀ {ds : List PyData} {vs : List Value}, VAll h (ds.map D) vs → ∃ as, ReadsAll h vs ds as
  | [], _, .nil => ⟨_, .nil⟩
  | _ :: _, _, .cons ⟨_, a⟩ b => let ⟨_, b'⟩ := vall_D b; ⟨_, .cons a b'⟩
theorem vall_of {h : Heap} : ∀ {ds : List PyData} {vs : List Value} {as : List Addr}, ReadsAll h vs ds as → VAll h (ds.map D) vs
  | _, _, _, .nil => .nil
  | _, _, _, .cons a b => .cons ⟨_, a⟩ (vall_of b)

/-- a list object of such items -/
def LsV (Ps : List VP) : VP := ⟨fun v h => ∃ a n vs, v = .ref a ∧ h.get? a = some { cls := .type "list", data := .seq vs n } ∧ VAll h Ps vs.toList,
  fun k ⟨a, n, vs, e, g, r⟩ => ⟨a, n, vs, e, k _ _ g, r.mono k⟩⟩
def TpV (Ps : List VP) : VP := ⟨fun v h => ∃ a n vs, v = .ref a ∧ h.get? a = some { cls := .type "tuple", data := .seq vs n } ∧ VAll h Ps vs.toList,
  fun k ⟨a, n, vs, e, g, r⟩ => ⟨a, n, vs, e, k _ _ g, r.mono k⟩⟩
theorem LsV.toD {ds : List PyData} {v : Value} {h : Heap} (x : (LsV (ds.map D)).p v h) : (D (.list ds)).p v h := by
  obtain ⟨a, n, vs, rfl, g, r⟩ := x
  obtain ⟨as, r⟩ := vall_D r
  exact ⟨_, .list g rfl rfl r⟩
theorem TpV.toD {ds : List PyData} {v : Value} {h : Heap} (x : (TpV (ds.map D)).p v h) : (D (.tuple ds)).p v h := by
  obtain ⟨a, n, vs, rfl, g, r⟩ := x
  obtain ⟨as, r⟩ := vall_D r
  exact ⟨_, .tuple g rfl rfl r⟩
theorem d_str {x : Str} {v : Value} {h : Heap} (e : (D (.str x)).p v h) : ∃ t, v = .str x t := by obtain ⟨_, e⟩ := e; cases e; exact ⟨_, rfl⟩
theorem d_int {x : Int} {v : Value} {h : Heap} (e : (D (.int x)).p v h) : ∃ t, v = .int x t := by obtain ⟨_, e⟩ := e; cases e; exact ⟨_, rfl⟩
theorem d_bool {x : Bool} {v : Value} {h : Heap} (e : (D (.bool x)).p v h) : v = .bool x := by obtain ⟨_, e⟩ := e; cases e; rfl
theorem d_none {v : Value} {h : Heap} (e : (D .none).p v h) : v = .none := by obtain ⟨_, e⟩ := e; cases e; rfl
theorem d_ofStr (x : Str) (t : Tok) (h : Heap) : (D (.str x)).p (.str x t) h := ⟨_, .str x t⟩
theorem d_ofInt (x : Int) (t : Tok) (h : Heap) : (D (.int x)).p (.int x t) h := ⟨_, .int x t⟩
theorem d_ofBool (x : Bool) (h : Heap) : (D (.bool x)).p (.bool x) h := ⟨_, .bool x⟩
theorem d_ofNone (h : Heap) : (D .none).p .none h := ⟨_, .none⟩

/-! ## what a tree yields that changes nothing -/
section
variable {prog : Program} {w : World}
def Ev (prog : Program) (w : World) (W : List Addr) (A : Around) (t : Sem Value) (P : VP) (s : Shared) : Prop :=
  WOK W s.heap → ∀ (E : Value → Shared → Prop) (Q : Value → Shared → Prop), (∀ v s', Keeps s s' → P.p v (Vw W s'.heap) → Q v s') → wpAny (model prog w) A t Q E s
/-- at every state that keeps what stands at s₀ -/
def PE (prog : Program) (w : World) (W : List Addr) (A : Around) (env : Env) (s₀ : Shared) (e : Expr) (P : VP) : Prop := ∀ s, Keeps s₀ s → Ev prog w W A (eval e env) P s
def Ld (prog : Program) (w : World) (W : List Addr) (A : Around) (env : Env) (s₀ : Shared) (x : Str) (P : VP) : Prop := ∀ s, Keeps s₀ s → Ev prog w W A (loadName env x) P s
def PT (prog : Program) (w : World) (W : List Addr) (A : Around) (env : Env) (s₀ : Shared) (e : Expr) (b : Bool) : Prop :=
  ∀ s, Keeps s₀ s → WOK W s.heap → ∀ (E : Value → Shared → Prop) (Q : Bool → Shared → Prop), (∀ s', Keeps s s' → Q b s') → wpAny (model prog w) A (isTrue e env (eval e env)) Q E s
def PEs (prog : Program) (w : World) (W : List Addr) (A : Around) (env : Env) (s₀ : Shared) (es : List Expr) (Ps : List VP) : Prop :=
  ∀ s, Keeps s₀ s → WOK W s.heap → ∀ (pos : Pos) (E : Value → Shared → Prop) (Q : List Value → Shared → Prop), (∀ vs s', Keeps s s' → VAll (Vw W s'.heap) Ps vs → Q vs s') → wpAny (model prog w) A (spliced (backTo pos (starEach es env))) Q E s

variable {W : List Addr} {A : Around} {env : Env} {s₀ s : Shared} {e l r : Expr} {P P1 P2 : VP} {pos : Pos}

theorem Ev.sub {t : Sem Value} (x : Ev prog w W A t P1 s) (hs : ∀ v h, P1.p v h → P.p v h) : Ev prog w W A t P s :=
  fun hw E Q hQ => x hw E Q fun v s' k p => hQ v s' k (hs _ _ p)
theorem Ev.val {t : Sem Value} {v : Value} {s' : Shared} (hk : Keeps s s') (hp : P.p v (Vw W s'.heap)) (h : ∀ (E : Value → Shared → Prop) (Q : Value → Shared → Prop), Q v s' → wpAny (model prog w) A t Q E s) : Ev prog w W A t P s :=
  fun _ E Q hQ => h E Q (hQ v s' hk hp)
theorem PE.at {s₁ : Shared} (x : PE prog w W A env s₀ e P) (k : Keeps s₀ s₁) : PE prog w W A env s₁ e P := fun s k' => x s (kps_trans k k')
theorem PE.sub (x : PE prog w W A env s₀ e P1) (hs : ∀ v h, P1.p v h → P.p v h) : PE prog w W A env s₀ e P := fun s k => (x s k).sub hs
theorem Ld.at {s₁ : Shared} {x : Str} (y : Ld prog w W A env s₀ x P) (k : Keeps s₀ s₁) : Ld prog w W A env s₁ x P := fun s k' => y s (kps_trans k k')

theorem pe_name {x : Str} (h : Ld prog w W A env s₀ x P) (hd : (x == ("__debug__" : Str)) = false := by decide) : PE prog w W A env s₀ (.Name x pos) P :=
  fun s k hw E Q hQ => wpAny_Name (h s k hw E Q hQ) hd
theorem pe_bin {op : Operator} (hl : PE prog w W A env s₀ l P1) (hr : PE prog w W A env s₀ r P2)
    (hop : ∀ a b s, P1.p a (Vw W s.heap) → P2.p b (Vw W s.heap) → Ev prog w W A (binaryOp op a b) P s) : PE prog w W A env s₀ (.BinOp l op r pos) P := by
  intro s k hw E Q hQ
  refine wpAny_BinOp (hl s k hw E _ fun a s1 k1 ha => ?_)
  refine hr s1 (kps_trans k k1) (hw.mono (kps_kp k1)) E _ fun b s2 k2 hb => ?_
  exact hop a b s2 (P1.mono (vw_mono (kps_kp k2)) ha) hb (hw.mono (kps_kp (kps_trans k1 k2))) E Q fun v s3 k3 hv => hQ v s3 (kps_trans k1 (kps_trans k2 k3)) hv
theorem pe_cmp {op : CmpOp} (hl : PE prog w W A env s₀ l P1) (hr : PE prog w W A env s₀ r P2)
    (hop : ∀ a b s, P1.p a (Vw W s.heap) → P2.p b (Vw W s.heap) → Ev prog w W A (compareOp op a b) P s) (hm : behindInMarks op r = false := by with_unfolding_all rfl) : PE prog w W A env s₀ (.Compare l [op] [r] pos) P := by
  intro s k hw E Q hQ
  refine wpAny_Compare1 (hl s k hw E _ fun a s1 k1 ha => ?_) hm
  refine hr s1 (kps_trans k k1) (hw.mono (kps_kp k1)) E _ fun b s2 k2 hb => ?_
  exact hop a b s2 (P1.mono (vw_mono (kps_kp k2)) ha) hb (hw.mono (kps_kp (kps_trans k1 k2))) E Q fun v s3 k3 hv => hQ v s3 (kps_trans k1 (kps_trans k2 k3)) hv
theorem pt_cmp {op : CmpOp} {b : Bool} (hl : PE prog w W A env s₀ l P1) (hr : PE prog w W A env s₀ r P2)
    (hop : ∀ a b' s, P1.p a (Vw W s.heap) → P2.p b' (Vw W s.heap) → Ev prog w W A (compareOp op a b') (D (.bool b)) s) (hm : behindInMarks op r = false := by with_unfolding_all rfl) : PT prog w W A env s₀ (.Compare l [op] [r] pos) b := by
  intro s k hw E Q hQ
  refine wpAny_isTrue_Compare1 (hl s k hw E _ fun a s1 k1 ha => ?_) hm
  refine hr s1 (kps_trans k k1) (hw.mono (kps_kp k1)) E _ fun b' s2 k2 hb => ?_
  refine hop a b' s2 (P1.mono (vw_mono (kps_kp k2)) ha) hb (hw.mono (kps_kp (kps_trans k1 k2))) E _ fun v s3 k3 hv => ?_
  rw [d_bool hv]
  exact wpAny_truthy_bool (hQ s3 (kps_trans k1 (kps_trans k2 k3)))

theorem pes_nil : PEs prog w W A env s₀ [] [] := fun s _ _ _ _ _ hQ => wpAny_items_nil (hQ [] s (kps_refl s) .nil)
theorem pes_cons {es : List Expr} {Ps : List VP} (he : PE prog w W A env s₀ e P) (hr : PEs prog w W A env s₀ es Ps) (hs : starEach (e :: es) env = (false, eval e env) :: starEach es env := by rfl) :
    PEs prog w W A env s₀ (e :: es) (P :: Ps) := by
  intro s k hw pos E Q hQ
  rw [hs]
  refine spliced_cons ?_
  refine he s k hw E _ fun v s1 k1 hv => ?_
  exact hr s1 (kps_trans k k1) (hw.mono (kps_kp k1)) pos E _ fun vs s2 k2 hvs => hQ _ s2 (kps_trans k1 k2) (.cons (P.mono (vw_mono (kps_kp k2)) hv) hvs)
theorem pe_list {es : List Expr} {Ps : List VP} (h : PEs prog w W A env s₀ es Ps) (hn : Ps.length ≤ sizeLine) : PE prog w W A env s₀ (.List es pos) (LsV Ps) := by
  intro s k hw E Q hQ
  refine wpAny_List_spliced (h s k hw _ E _ fun vs s1 k1 hvs => ⟨by rw [hvs.length]; exact hn, ?_⟩)
  have hf : s1.heap.get? s1.heap.objs.size = none := get_size_none _ (Nat.le_refl _)
  exact hQ _ _ (kps_trans k1 kps_push) ⟨_, _, _, rfl, vw_to (Heap.get?_push_size _ rfl) (hw.mono (kps_kp k1)).not_mem, by simpa using hvs.mono (vw_mono (kps_kp kps_push))⟩
theorem pe_tuple {es : List Expr} {Ps : List VP} {n : Nat} (h : PEs prog w W A env s₀ es Ps) (hn : Ps.length ≤ sizeLine) : PE prog w W A env s₀ (.Tuple es n pos) (TpV Ps) := by
  intro s k hw E Q hQ
  refine wpAny_Tuple_spliced (h s k hw _ E _ fun vs s1 k1 hvs => ⟨by rw [hvs.length]; exact hn, ?_⟩)
  have hf : s1.heap.get? s1.heap.objs.size = none := get_size_none _ (Nat.le_refl _)
  exact hQ _ _ (kps_trans k1 kps_push) ⟨_, _, _, rfl, vw_to (Heap.get?_push_size _ rfl) (hw.mono (kps_kp k1)).not_mem, by simpa using hvs.mono (vw_mono (kps_kp kps_push))⟩
theorem pe_int {i : Int} {n : Nat} : PE prog w W A env s₀ (.Constant (.int i) n pos) (D (.int i)) := fun s _ _ _ _ hQ =>
  wpAny_Constant_int (hQ _ _ kps_tok (d_ofInt _ _ _))
theorem pe_str {x : Str} {n : Nat} : PE prog w W A env s₀ (.Constant (.str x) n pos) (D (.str x)) := fun s _ _ _ _ hQ =>
  wpAny_Constant_str (hQ _ _ kps_tok (d_ofStr _ _ _))
theorem pe_none {n : Nat} : PE prog w W A env s₀ (.Constant .none n pos) (D .none) := fun s _ _ _ _ hQ =>
  wpAny_Constant_none (hQ _ _ (kps_refl _) (d_ofNone _))
theorem pe_bool {b : Bool} {n : Nat} : PE prog w W A env s₀ (.Constant (.bool b) n pos) (D (.bool b)) := fun s _ _ _ _ hQ =>
  wpAny_Constant_bool (hQ _ _ (kps_refl _) (d_ofBool _ _))

/-! ## operations -/
theorem op_add_str {x y : Str} (hsz : x.length + y.length ≤ sizeLine) (a b : Value) (s : Shared) (ha : (D (.str x)).p a (Vw W s.heap)) (hb : (D (.str y)).p b (Vw W s.heap)) : Ev prog w W A (binaryOp .Add a b) (D (.str (x ++ y))) s := by
  obtain ⟨t, rfl⟩ := d_str ha
  obtain ⟨u, rfl⟩ := d_str hb
  exact fun _ E Q hQ => PyProof.Rows.add_str (fun t' tk => hQ _ _ kps_tok (d_ofStr _ _ _)) hsz
theorem op_add_int {x y : Int} (a b : Value) (s : Shared) (ha : (D (.int x)).p a (Vw W s.heap)) (hb : (D (.int y)).p b (Vw W s.heap)) : Ev prog w W A (binaryOp .Add a b) (D (.int (x + y))) s := by
  obtain ⟨t, rfl⟩ := d_int ha
  obtain ⟨u, rfl⟩ := d_int hb
  exact fun _ E Q hQ => PyProof.Rows.add_int (hQ _ _ kps_tok (d_ofInt _ _ _))
theorem op_sub_int {x y : Int} (a b : Value) (s : Shared) (ha : (D (.int x)).p a (Vw W s.heap)) (hb : (D (.int y)).p b (Vw W s.heap)) : Ev prog w W A (binaryOp .Sub a b) (D (.int (x - y))) s := by
  obtain ⟨t, rfl⟩ := d_int ha
  obtain ⟨u, rfl⟩ := d_int hb
  exact fun _ E Q hQ => PyProof.Rows.sub_int (hQ _ _ kps_tok (d_ofInt _ _ _))
theorem op_mul_int {x y : Int} (hm : IntMulOk x y) (a b : Value) (s : Shared) (ha : (D (.int x)).p a (Vw W s.heap)) (hb : (D (.int y)).p b (Vw W s.heap)) : Ev prog w W A (binaryOp .Mult a b) (D (.int (x * y))) s := by
  obtain ⟨t, rfl⟩ := d_int ha
  obtain ⟨u, rfl⟩ := d_int hb
  exact fun _ E Q hQ => PyProof.Rows.mul_int (hQ _ _ kps_tok (d_ofInt _ _ _)) hm
theorem op_fdiv {x y : Int} (h0 : y ≠ 0) (hs : y.natAbs < 1073741824) (a b : Value) (s : Shared) (ha : (D (.int x)).p a (Vw W s.heap)) (hb : (D (.int y)).p b (Vw W s.heap)) : Ev prog w W A (binaryOp .FloorDiv a b) (D (.int (x.fdiv y))) s := by
  obtain ⟨t, rfl⟩ := d_int ha
  obtain ⟨u, rfl⟩ := d_int hb
  exact fun _ E Q hQ => floordiv_int h0 (hQ _ _ kps_tok (d_ofInt _ _ _)) (.inl (PyProof.noPylong_small hs))
theorem op_mod {x y : Int} (h0 : y ≠ 0) (a b : Value) (s : Shared) (ha : (D (.int x)).p a (Vw W s.heap)) (hb : (D (.int y)).p b (Vw W s.heap)) : Ev prog w W A (binaryOp .Mod a b) (D (.int (x.fmod y))) s := by
  obtain ⟨t, rfl⟩ := d_int ha
  obtain ⟨u, rfl⟩ := d_int hb
  exact fun _ E Q hQ => mod_int' h0 (hQ _ _ kps_tok (d_ofInt _ _ _))
theorem op_pow {x y : Int} (h0 : 0 ≤ y) (hsz : (Builtin.Int.intBits x : Int) * y ≤ 2 ^ 27) (a b : Value) (s : Shared) (ha : (D (.int x)).p a (Vw W s.heap)) (hb : (D (.int y)).p b (Vw W s.heap)) :
    Ev prog w W A (binaryOp .Pow a b) (D (.int (x ^ y.toNat))) s := by
  obtain ⟨t, rfl⟩ := d_int ha
  obtain ⟨u, rfl⟩ := d_int hb
  exact fun _ E Q hQ => pow_int h0 hsz (hQ _ _ kps_tok (d_ofInt _ _ _))
theorem op_eq {x y : PyData} (hx : SeqAt.shaped x = true) (hy : SeqAt.shaped y = true) (hu : A.units + 64 < cLine) (a b : Value) (s : Shared) (ha : (D x).p a (Vw W s.heap)) (hb : (D y).p b (Vw W s.heap)) :
    Ev prog w W A (compareOp .Eq a b) (D (.bool (PyData.eqv x y))) s := by
  obtain ⟨as, ra⟩ := ha
  obtain ⟨bs, rb⟩ := hb
  exact fun _ E Q hQ => SeqAt.compareEq_shaped (Reads.keeps (vw_kp _ _) ra) (Reads.keeps (vw_kp _ _) rb) hx hy hu (hQ _ _ (kps_refl _) (d_ofBool _ _))
theorem op_ne {x y : PyData} (hx : SeqAt.shaped x = true) (hy : SeqAt.shaped y = true) (hu : A.units + 64 < cLine) (a b : Value) (s : Shared) (ha : (D x).p a (Vw W s.heap)) (hb : (D y).p b (Vw W s.heap)) :
    Ev prog w W A (compareOp .NotEq a b) (D (.bool (!PyData.eqv x y))) s := by
  obtain ⟨as, ra⟩ := ha
  obtain ⟨bs, rb⟩ := hb
  exact fun _ E Q hQ => SeqAt.compareNe_shaped (Reads.keeps (vw_kp _ _) ra) (Reads.keeps (vw_kp _ _) rb) hx hy hu (hQ _ _ (kps_refl _) (d_ofBool _ _))
theorem op_lt {x y : Int} (a b : Value) (s : Shared) (ha : (D (.int x)).p a (Vw W s.heap)) (hb : (D (.int y)).p b (Vw W s.heap)) : Ev prog w W A (compareOp .Lt a b) (D (.bool (decide (x < y)))) s := by
  obtain ⟨t, rfl⟩ := d_int ha
  obtain ⟨u, rfl⟩ := d_int hb
  exact fun _ E Q hQ => wpAny_lt_int (hQ _ _ (kps_refl _) (d_ofBool _ _))
theorem op_gt {x y : Int} (a b : Value) (s : Shared) (ha : (D (.int x)).p a (Vw W s.heap)) (hb : (D (.int y)).p b (Vw W s.heap)) : Ev prog w W A (compareOp .Gt a b) (D (.bool (decide (y < x)))) s := by
  obtain ⟨t, rfl⟩ := d_int ha
  obtain ⟨u, rfl⟩ := d_int hb
  exact fun _ E Q hQ => PyProof.Rows.gt_int (hQ _ _ (kps_refl _) (d_ofBool _ _))
end
end Mine
set_option maxRecDepth 100000
set_option linter.unusedVariables false
namespace Mine
open PySem PySem.Spec PySem.Calls PyProof.Rows PySem.W

/-- a list object that has come since -/
def LsF (h₀ : Heap) (Ps : List VP) : VP := ⟨fun v h => ∃ a k vs, v = .ref a ∧ h₀.get? a = none ∧ h.get? a = some { cls := .type "list", data := .seq vs k } ∧ VAll (Vw [a] h) Ps vs.toList,
  fun k ⟨a, n, vs, e, l, g, r⟩ => ⟨a, n, vs, e, l, k _ _ g, r.mono (vw_mono k)⟩⟩
theorem LsF.toLs {h₀ : Heap} {Ps : List VP} {v : Value} {h : Heap} (x : (LsF h₀ Ps).p v h) : (LsV Ps).p v h := by
  obtain ⟨a, n, vs, e, l, g, r⟩ := x
  exact ⟨a, n, vs, e, g, r.mono (vw_kp _ _)⟩
theorem none_of {h h' : Heap} (k : Kp h h') {a : Addr} (e : h'.get? a = none) : h.get? a = none := by
  cases q : h.get? a with
  | none => rfl
  | some o => rw [k a o q] at e; cases e
theorem LsF.less {h₀ h₁ : Heap} {Ps : List VP} {v : Value} {h : Heap} (x : (LsF h₁ Ps).p v h) (hn : Kp h₀ h₁) : (LsF h₀ Ps).p v h := by
  obtain ⟨a, k, vs, e, l, g, r⟩ := x
  exact ⟨a, k, vs, e, none_of hn l, g, r⟩

section
variable {prog : Program} {w : World} {W : List Addr} {A : Around} {env : Env} {s₀ s : Shared}

def owning : List String := ["enumerate", "zip", "dict_itemiterator", "dict_reverseitemiterator", "odict_iterator", "itertools.zip_longest", "itertools.pairwise"]
/-- what can be gone through: the items one by one -/
def Src (prog : Program) (w : World) (W X : List Addr) (A : Around) (x : Value) (s : Shared) (n : Nat) (Pi : Nat → VP) : Prop :=
  WOK W s.heap → ∀ (E : Value → Shared → Prop) (Q : Value → Shared → Prop),
    (∀ o fp St, Walks prog w A s.heap.objs.size fp [s.heap.objs.size] n (fun i v => (Pi i).p v (Vw W s.heap)) St → St 0 (s.heap.push o) → (∀ b ∈ fp, b < (s.heap.push o).objs.size) → (∀ b ∈ fp, b ∉ X) → (∀ i h, St i h → ∃ o, h.get? s.heap.objs.size = some o ∧ ∃ T, o.cls = .type T ∧ owning.contains T = false) →
      Q (.ref s.heap.objs.size) { s with heap := s.heap.push o }) → wpAny (model prog w) A (pyIter x) Q E s

def tup {α : Type} (Po : Nat → α) (tb : Nat → Bool) (n : Nat) : List α := ((List.range n).filter tb).map Po
theorem tup_succ {α : Type} (Po : Nat → α) (tb : Nat → Bool) (n : Nat) : tup Po tb (n + 1) = tup Po tb n ++ (if tb n then [Po n] else []) := by
  unfold tup
  rw [List.range_succ, List.filter_append, List.map_append]
  cases h : tb n <;> simp [h]
theorem tup_length {α : Type} (Po : Nat → α) (tb : Nat → Bool) (n : Nat) : (tup Po tb n).length ≤ n := by
  unfold tup
  rw [List.length_map]
  exact Nat.le_trans (List.length_filter_le _ _) (by rw [List.length_range]; exact Nat.le_refl _)

abbrev tests (ifs : List Expr) (cenv : Env) : Sem Bool := forIn ifs true fun c r => if r = true then do let ok ← isTrue c cenv (eval c cenv); pure (ForInStep.yield ok) else pure (ForInStep.yield r)

/-- the turn of a list comprehension: item i gives what Po i says where the test tb i holds -/
def Turn (prog : Program) (w : World) (W : List Addr) (A : Around) (cenv : Addr → Env) (x : Str) (ifs : List Expr) (elt : Expr) (s₀ : Shared) (Pi Po : Nat → VP) (tb : Nat → Bool) (n : Nat) : Prop :=
  ∀ i, i < n → ∀ (W' : List Addr) (C : Addr) (s : Shared) (m : Str → Option Value) (v : Value), Keeps s₀ s → Kp (Vw W s₀.heap) (Vw W' s.heap) → WOK W' s.heap → s.heap.Ns C m → m x = some v → (Pi i).p v (Vw W' s.heap) →
    (∀ (E : Value → Shared → Prop) (Q : Bool → Shared → Prop), (∀ s', Keeps s s' → Q (tb i) s') → wpAny (model prog w) A (tests ifs (cenv C)) Q E s) ∧ (tb i = true → Ev prog w W' A (eval elt (cenv C)) (Po i) s)

theorem comp_core {elt iter : Expr} {x : Str} {px : Pos} {ifs : List Expr} {scope : Scope} {cl : List (Str × Addr)} {pos : Pos} {s₁ : Shared} {oI : Obj} {fp : List Addr} {n : Nat} {Pi Po : Nat → VP} {tb : Nat → Bool} {St : Nat → Heap → Prop} {E : Value → Shared → Prop}
    (Wk : Walks prog w A s₁.heap.objs.size fp [s₁.heap.objs.size] n (fun i v => (Pi i).p v (Vw W s₁.heap)) St) (hsz : n ≤ sizeLine) {RR : Value → Addr → Result → Shared → Prop}
    (hcell : ∀ y ∈ scope.names, y.2 ≠ .cell) (hkind : scope.kind = .function) (hx : scope.names.lookup x = some .local) (hst : St 0 (s₁.heap.push oI)) (hfp : ∀ b ∈ fp, b < (s₁.heap.push oI).objs.size) (hw : WOK W s₁.heap)
    (T : Turn prog w W A (fun C => compEnvC scope cl C env) x ifs elt s₁ Pi Po tb n)
    (hRR : ∀ (Dd C : Addr) h' tk m' ys, @LE.le Nat _ s₁.heap.objs.size Dd → @LE.le Nat _ s₁.heap.objs.size C → Dd ≠ C → h'.Ns C m' → h'.PlainList Dd ys → VAll (Vw (Dd :: C :: s₁.heap.objs.size :: W) h') (tup Po tb n) ys.toList →
      Kp s₁.heap h' → RR (.ref Dd) C (.ok .next) { s₁ with heap := h', toks := tk }) :
    wpAny (model prog w) A (newList []) (fun acc s₃ => wpAny (model prog w) A (newFunctionEnv scope env.globals cl [] env.qual none .none (some env)) (fun cenv s₄ =>
      codeAny (model prog w) A (.compStart (.ListComp elt [⟨.Name x px, iter, ifs, 0⟩] scope pos) 0 (.ref s₁.heap.objs.size) acc { cenv with scope := relabel scope env }) (RR acc cenv.locals) s₄) E s₃) E { s₁ with heap := s₁.heap.push oI } := by
  refine wpAny_newObj_type (wpAny_newFunctionEnv hcell (by intro y hy; simp at hy) (fun h₁ hns₁ hsb₁ => ?_) hkind)
  dsimp only at hns₁ hsb₁ ⊢
  have hI0 : s₁.heap.get? s₁.heap.objs.size = none := get_size_none _ (Nat.le_refl _)
  generalize hI : s₁.heap.objs.size = I at *
  have hD : (s₁.heap.push oI).objs.size = I + 1 := by rw [Heap.size_push, hI]
  rw [hD] at hfp
  generalize hH2 : (s₁.heap.push oI).push { cls := .type "list", dict := none, data := .seq ([] : List Value).toArray } = H2 at hns₁ hsb₁ ⊢
  have hC : H2.objs.size = I + 2 := by rw [← hH2, Heap.size_push, hD]
  rw [hD]
  rw [hC] at hns₁ hsb₁ ⊢
  have hD0 : s₁.heap.get? (I + 1) = none := get_size_none _ (by rw [hI]; exact Nat.le_succ _)
  have hC0 : s₁.heap.get? (I + 2) = none := get_size_none _ (by rw [hI]; exact Nat.le_add_right _ _)
  have oldH : Kp (s₁.heap.push oI) h₁ := fun b o e => hsb₁.extBut b o (Nat.ne_of_lt (Nat.lt_succ_of_lt (by have := Heap.lt_size e; rw [hD] at this; exact this))) (Heap.get?_push_of_some _ (hH2 ▸ Heap.get?_push_of_some _ e))
  have old : Kp s₁.heap h₁ := fun b o e => oldH b o (Heap.get?_push_of_some _ e)
  have hacc : h₁.PlainList (I + 1) #[] := ⟨_, hsb₁.extBut _ _ (Nat.ne_of_lt (Nat.lt_succ_self _)) (Heap.get?_push_of_some _ (hH2 ▸ hD ▸ Heap.get?_push_size _ rfl))⟩
  have hst₁ : St 0 h₁ := Wk.frame _ _ _ hst fun b _ o e => oldH b o e
  have hDf : (I + 1) ∉ fp := fun hm => Nat.lt_irrefl _ (hfp _ hm)
  have hCf : (I + 2) ∉ fp := fun hm => Nat.lt_irrefl _ (Nat.lt_of_succ_lt (hfp _ hm))
  have hDI : (I + 1 : Nat) ≠ I := by omega
  have hCI : (I + 2 : Nat) ≠ I := by omega
  have hDC : (I + 1 : Nat) ≠ I + 2 := by omega
  have hIC : (I : Nat) ≤ I + 2 := by omega
  have hID : (I : Nat) ≤ I + 1 := by omega
  generalize hDd : (I + 1 : Nat) = Dd at *
  generalize hCc : (I + 2 : Nat) = C at *
  have hxk : (compEnvC scope cl C env).kindOf x = some .local := lookup_relabel_local hx
  have hp : ((compEnvC scope cl C env).scope.kind == .class || ((compEnvC scope cl C env).scope.kind == .module && (compEnvC scope cl C env).locals != (compEnvC scope cl C env).globals)) = false := by simp [compEnvC, relabel, hkind]
  let W' := Dd :: C :: I :: W
  have away : ∀ h : Heap, Kp s₁.heap h → Kp (Vw W s₁.heap) (Vw W' h) := fun h k b o e => by
    obtain ⟨e1, e2⟩ := vw_of e
    refine vw_to (k b o e1) fun hm => ?_
    rcases List.mem_cons.mp hm with rfl | hm
    · rw [hD0] at e1; cases e1
    rcases List.mem_cons.mp hm with rfl | hm
    · rw [hC0] at e1; cases e1
    rcases List.mem_cons.mp hm with rfl | hm
    · rw [hI0] at e1; cases e1
    exact e2 hm
  have loop : ∀ s₃ : Shared, s₃ = { s₁ with heap := h₁, toks := s₁.toks + ([] : List (Str × Value)).length } →
      codeAny (model prog w) A (.compLoop (.ListComp elt [⟨.Name x px, iter, ifs, 0⟩] scope pos) 0 (.ref I) (.ref Dd) (compEnvC scope cl C env)) (RR (.ref Dd) C) s₃ := by
    rintro s₃ rfl
    refine codeAny_compLoop_tests
      (fun k s' => ∃ h' tk m ys i, s' = { s₁ with heap := h', toks := tk } ∧ St i h' ∧ h'.PlainList Dd ys ∧ h'.Ns C m ∧ VAll (Vw W' h') (tup Po tb i) ys.toList ∧ i ≤ n ∧ k = n + 1 - i ∧ Kp s₁.heap h') ?_ (n + 1)
      ⟨h₁, _, _, #[], 0, rfl, hst₁, hacc, hns₁, by simpa [tup] using VAll.nil, Nat.zero_le _, rfl, old⟩
    rintro k s' ⟨H, tk, m, ys, i, rfl, hst', hacc', hn', hV, hi, rfl, hk⟩
    by_cases hlt : i < n
    · refine Wk.item i _ _ _ hlt hst' fun v h₁ tk₁ hPv hst₁ hk₁ => ?_
      have hkC : ∀ o, H.get? C = some o → h₁.get? C = some o := fun o e => hk₁ C o (by simp only [List.mem_singleton]; exact hCI) e
      refine wpAny_assign_Name (wpAny_storeName_local hxk (hn'.at' hkC) (fun h₂ hn₂ hs₂ => ?_) hp)
      have hn₂' : h₂.Ns C _ := hn₂
      have up : ∀ b o, b ≠ I → b ≠ C → H.get? b = some o → h₂.get? b = some o := fun b o bI bC e => hs₂.extBut b o bC (hk₁ b o (by simpa using bI) e)
      have hk₂ : Kp s₁.heap h₂ := fun b o e => up b o (by rintro rfl; rw [hI0] at e; cases e) (by rintro rfl; rw [hC0] at e; cases e) (hk b o e)
      have hst₂ : St (i + 1) h₂ := Wk.frame _ _ _ hst₁ fun b hb o e => hs₂.extBut b o (fun h => hCf ((show b = C from h) ▸ hb)) e
      have hW₂ : WOK W' h₂ := by
        intro b hb
        rcases List.mem_cons.mp hb with rfl | hb
        · obtain ⟨q, e⟩ := hacc'; exact ⟨_, _, Nat.le_refl _, up _ _ hDI hDC e⟩
        obtain ⟨o, _, _, e, _⟩ := hn₂'
        rcases List.mem_cons.mp hb with rfl | hb
        · exact ⟨_, o, Nat.le_refl _, e⟩
        rcases List.mem_cons.mp hb with rfl | hb
        · exact ⟨C, o, hIC, e⟩
        exact (hw.mono hk₂) b hb
      have hV₂ : VAll (Vw W' h₂) (tup Po tb i) ys.toList := hV.mono fun b o e => by
        obtain ⟨e1, e2⟩ := vw_of e
        exact vw_to (up b o (fun q => e2 (by simp [W', q])) (fun q => e2 (by simp [W', q])) e1) e2
      obtain ⟨Tt, Te⟩ := T i hlt W' C { s₁ with heap := h₂, toks := _ } _ v (kps_mk hk₂) (away h₂ hk₂) hW₂ hn₂' (by simp) ((Pi i).mono (away h₂ hk₂) hPv)
      refine Tt _ _ fun s₃ k₃ => ?_
      obtain ⟨h₃, tk₃, rfl, k₃⟩ := k₃
      have hst₃ : St (i + 1) h₃ := Wk.frame _ _ _ hst₂ fun b _ o e => k₃ b o e
      have hV₃ := hV₂.mono (vw_mono (W := W') k₃)
      have hacc₃ : h₃.PlainList Dd ys := hacc'.at fun o e => k₃ _ o (up _ _ hDI hDC e)
      cases hb : tb i with
      | false =>
        simp only [Bool.false_eq_true, if_false]
        refine ⟨n + 1 - (i + 1), by omega, h₃, tk₃, _, ys, i + 1, rfl, hst₃, hacc₃, hn₂'.keeps k₃, ?_, hlt, rfl, hk₂.trans k₃⟩
        rw [tup_succ, hb]; simpa using hV₃
      | true =>
        simp only [if_true]
        have hk₃ : Kp s₁.heap h₃ := hk₂.trans k₃
        have hW₃ : WOK W' h₃ := hW₂.mono k₃
        refine (T i hlt W' C { s₁ with heap := h₃, toks := tk₃ } _ v (kps_mk hk₃) (away h₃ hk₃) hW₃ (hn₂'.keeps k₃) (by simp) ((Pi i).mono (away h₃ hk₃) hPv)).2 hb hW₃ _ _ fun y s₄ k₄ hy => ?_
        obtain ⟨h₄, tk₄, rfl, k₄⟩ := k₄
        have hys : ys.size ≤ sizeLine := by
          have e1 := hV.length
          have e2 := tup_length Po tb i
          have e4 : ys.toList.length = ys.size := by simp
          omega
        refine wpAny_list_append_plain (hsz := hys) (hacc₃.at fun o e => k₄ _ o e) fun h₅ hl₅ hs₅ => ?_
        have up₅ : ∀ b o, b ≠ Dd → h₄.get? b = some o → h₅.get? b = some o := fun b o hb e => hs₅.extBut b o hb e
        have vk : Kp (Vw W' h₄) (Vw W' h₅) := fun b o e => vw_to (up₅ b o (fun q => (vw_of e).2 (by simp [W', q])) (vw_of e).1) (vw_of e).2
        refine ⟨n + 1 - (i + 1), by omega, h₅, tk₄, _, ys.push y, i + 1, rfl, ?_, hl₅, ((hn₂'.keeps k₃).keeps k₄).sameBut hs₅ (Ne.symm hDC), ?_, hlt, rfl, fun b o e => up₅ b o (by rintro rfl; rw [hD0] at e; cases e) (k₄ _ _ (hk₃ b o e))⟩
        · exact Wk.frame _ _ h₅ hst₃ fun b hb o e => up₅ b o (fun q => hDf (q ▸ hb)) (k₄ b o e)
        · rw [tup_succ, hb]
          simp only [if_true]
          have : (ys.push y).toList = ys.toList ++ [y] := by simp
          rw [this]
          exact VAll.append ((hV₃.mono (vw_mono k₄)).mono vk) (.cons ((Po i).mono vk hy) .nil)
    · have hin : i = n := by omega
      subst hin
      refine Wk.done _ _ _ hst' fun h₁ tk₁ hk₁ => ?_
      have kk : ∀ b o, b ≠ I → H.get? b = some o → h₁.get? b = some o := fun b o bI e => hk₁ b o (by simpa using bI) e
      refine hRR Dd C h₁ tk₁ m ys hID hIC hDC (hn'.at' fun o e => kk _ _ hCI e) (hacc'.at fun o e => kk _ _ hDI e) (hV.mono fun b o e => ?_) fun b o e => kk b o (by rintro rfl; rw [hI0] at e; cases e) (hk b o e)
      obtain ⟨e1, e2⟩ := vw_of e
      exact vw_to (kk b o (fun q => e2 (by simp [W', q])) e1) e2
  exact codeAny_compStart_list (loop _ rfl) (Wk.self 0 _ _ _ hst₁ (loop _ rfl))
theorem Turn.at {cenv : Addr → Env} {x : Str} {ifs : List Expr} {elt : Expr} {s₁ : Shared} {Pi Po : Nat → VP} {tb : Nat → Bool} {n : Nat} (T : Turn prog w W A cenv x ifs elt s₀ Pi Po tb n) (k : Keeps s₀ s₁) :
    Turn prog w W A cenv x ifs elt s₁ Pi Po tb n := fun i hi W' C s m v k' kv => T i hi W' C s m v (kps_trans k k') ((vw_mono (kps_kp k)).trans kv)

theorem pe_listcomp {elt iter : Expr} {x : Str} {px : Pos} {ifs : List Expr} {scope : Scope} {cl : List (Str × Addr)} {pos : Pos} {n : Nat} {Pit : VP} {Pi Po : Nat → VP} {tb : Nat → Bool}
    (hclos : closureFor scope env = pure cl) (hcell : ∀ y ∈ scope.names, y.2 ≠ .cell) (hkind : scope.kind = .function)
    (hnames : ∀ y ∈ scope.names, y.2 = .local → scope.names.lookup y.1 = some .local) (hx : scope.names.lookup x = some .local)
    (hiter : PE prog w W A env s₀ iter Pit) (hsrc : ∀ v s, Keeps s₀ s → Pit.p v (Vw W s.heap) → Src prog w W [] A v s n Pi) (hn : n ≤ sizeLine)
    (T : Turn prog w W A (fun C => compEnvC scope cl C env) x ifs elt s₀ Pi Po tb n)
    (hs : ∀ x, foldedSetIterable iter env x = pure x := by intro _; rfl) :
    PE prog w W A env s₀ (.ListComp elt [⟨.Name x px, iter, ifs, 0⟩] scope pos) (LsF s₀.heap (tup Po tb n)) := by
  intro s k hw E Q hQ
  rw [eval_ListComp]
  refine wpAny_comprehension_free (use := none) rfl hs hclos hkind hnames (hiter s k hw E _ fun xv s₁ k₁ hv => hsrc xv s₁ (kps_trans k k₁) hv (hw.mono (kps_kp k₁)) E _ fun o fp St Wk hst hfp _ _ => ?_)
  refine comp_core (RR := fun acc C => compPost (model prog w) A E none Q acc C) Wk hn hcell hkind hx hst hfp (hw.mono (kps_kp k₁)) (T.at (kps_trans k k₁)) ?_
  intro Dd C h' tk m' ys hD hC hDC hns hpl hV hk
  refine ⟨m', hns, fun h'' hs'' => ?_⟩
  have k2 : Kp s₁.heap h'' := fun b o e => hs''.extBut b o (by rintro rfl; rw [get_size_none _ hC] at e; cases e) (hk b o e)
  have hw' : WOK W s₁.heap := hw.mono (kps_kp k₁)
  have hfr : s₀.heap.get? Dd = none := none_of ((kps_kp k).trans (kps_kp k₁)) (get_size_none _ hD)
  refine hQ _ _ (kps_trans k₁ (kps_mk k2)) ⟨Dd, _, ys, rfl, hfr, vw_to (hpl.extBut hs''.extBut hDC).choose_spec (hw'.fresh hD), hV.mono fun b o e => ?_⟩
  · obtain ⟨e1, e2⟩ := vw_of e
    exact vw_to (vw_to (hs''.extBut b o (fun q => e2 (by simp [q])) e1) fun q => e2 (by simp [q])) fun q => e2 (by simp [List.mem_singleton.mp q])
end
end Mine
set_option maxRecDepth 100000
set_option linter.unusedVariables false
namespace Mine
open PySem PySem.Spec PySem.Calls PyProof.Rows PySem.W

/-- the text's own objects, the names, no limit set -/
structure Wd (K : Frag) (mg mb : Str → Option Value) (h : Heap) : Prop where
  inK : K.In h
  g : h.Ns mainGlobals mg
  b : h.Ns builtinsNs mb
  lim : h.NoLimit
  bb : ∀ x : Str, x ≠ "__name__" → mb x = bootBuiltins x
theorem Wd.mono {K : Frag} {mg mb : Str → Option Value} {h h' : Heap} (x : Wd K mg mb h) (k : Kp h h') : Wd K mg mb h' :=
  ⟨fun a o e => k a o (x.inK a o e), x.g.keeps k, x.b.keeps k, x.lim.keeps k, x.bb⟩

section
variable {prog : Program} {w : World} {W : List Addr} {A : Around} {env : Env} {s₀ s : Shared} {K : Frag} {mg mb : Str → Option Value} {P : VP} {pos p : Pos}

theorem pe_global {x : Str} {v : Value} (hW : Wd K mg mb s₀.heap) (e : nsIn K mainGlobals x = some (some v)) (hg : env.globals = mainGlobals := by rfl)
    (hk : env.scope.kind = .function := by rfl) (hx : env.kindOf x = some .globalImplicit := by rfl) (hd : (x == ("__debug__" : Str)) = false := by decide) : PE prog w W A env s₀ (.Name x pos) (Is v) :=
  fun s k _ E Q hQ => Name_function_global hk hx (loadGlobal_global (by rw [hg]; exact (hW.mono (kps_kp k)).g) (mg_of hW.inK hW.g e) (hQ _ _ (kps_refl _) rfl)) hd
theorem pe_built {x : Str} {v : Value} (hW : Wd K mg mb s₀.heap) (e : nsIn K mainGlobals x = some none) (hv : bootBuiltins x = some v) (hn : x ≠ "__name__" := by decide) (hg : env.globals = mainGlobals := by rfl) (hb : env.builtins = builtinsNs := by rfl)
    (hk : env.scope.kind = .function := by rfl) (hx : env.kindOf x = some .globalImplicit := by rfl) (hd : (x == ("__debug__" : Str)) = false := by decide) : PE prog w W A env s₀ (.Name x pos) (Is v) :=
  fun s k _ E Q hQ => Name_function_global hk hx (loadGlobal_builtin (by rw [hg]; exact (hW.mono (kps_kp k)).g) (mg_none_of hW.inK hW.g e) (by rw [hb]; exact (hW.mono (kps_kp k)).b) ((hW.bb x hn).trans hv) (hQ _ _ (kps_refl _) rfl)) hd

theorem pe_call_def {id : Str} {e : Expr} {rest : List Expr} {f : Addr} {o : Obj} {fd : FuncData} {Ps : List VP} (hn : PE prog w W A env s₀ (.Name id p) (Is (.ref f))) (hfo : s₀.heap.get? f = some o) (hdat : o.data = .func fd)
    (ha : PEs prog w W A env s₀ (e :: rest) Ps) (hc : ∀ vs s, Keeps s₀ s → VAll (Vw W s.heap) Ps vs → Ev prog w W A (call (.ref f) vs) P s)
    (he : starEach (e :: rest) env = (false, eval e env) :: starEach rest env := by rfl) : PE prog w W A env s₀ (.Call (.Name id p) (e :: rest) [] pos) P := by
  intro s k hw E Q hQ
  refine wpAny_Call_NameR (hn s k hw E _ fun v s1 k1 hv => ?_)
  have hv : v = .ref f := hv
  subst hv
  refine callWith_def hdat (ha s1 (kps_trans k k1) (hw.mono (kps_kp k1)) _ E _ fun vs s2 k2 hvs => ?_) he
  have k3 := kps_trans k (kps_trans k1 k2)
  exact ⟨kps_kp k3 _ _ hfo, hc vs s2 k3 hvs (hw.mono (kps_kp (kps_trans k1 k2))) E Q fun v s' k' hv => hQ v s' (kps_trans k1 (kps_trans k2 k')) hv⟩

theorem pe_call_type {id : Str} {T : String} {e : Expr} {rest : List Expr} {Ps : List VP} (hn : PE prog w W A env s₀ (.Name id p) (Is (.type T)))
    (ha : PEs prog w W A env s₀ (e :: rest) Ps) (hc : ∀ vs s, Keeps s₀ s → VAll (Vw W s.heap) Ps vs → Ev prog w W A (call (.type T) vs) P s)
    (he : starEach (e :: rest) env = (false, eval e env) :: starEach rest env := by rfl) (hpl : (backTo pos (starEach (e :: rest) env)).any (·.1) = false := by rfl) : PE prog w W A env s₀ (.Call (.Name id p) (e :: rest) [] pos) P := by
  intro s k hw E Q hQ
  refine wpAny_Call_NameR (hn s k hw E _ fun v s1 k1 hv => ?_)
  have hv : v = .type T := hv
  subst hv
  refine PyProof.Rows.callWith_type hpl ?_
  have hb : backTo pos (starEach (e :: rest) env) = (false, eval e env) :: backTo pos (starEach rest env) := by rw [he]; rfl
  rw [hb]
  refine evalArgs_plain ?_
  rw [← hb]
  refine ha s1 (kps_trans k k1) (hw.mono (kps_kp k1)) _ E _ fun vs s2 k2 hvs => ?_
  exact hc vs s2 (kps_trans k (kps_trans k1 k2)) hvs (hw.mono (kps_kp (kps_trans k1 k2))) E Q fun v s' k' hv => hQ v s' (kps_trans k1 (kps_trans k2 k')) hv

theorem pe_call_builtin {id : Str} {b : String} {e : Expr} {rest : List Expr} {Ps : List VP} (hn : PE prog w W A env s₀ (.Name id p) (Is (.builtin b)))
    (ha : PEs prog w W A env s₀ (e :: rest) Ps) (hc : ∀ vs s, Keeps s₀ s → VAll (Vw W s.heap) Ps vs → Ev prog w W A (call (.builtin b) vs) P s)
    (he : starEach (e :: rest) env = (false, eval e env) :: starEach rest env := by rfl) (hpl : (backTo pos (starEach rest env)).any (·.1) = false := by rfl) : PE prog w W A env s₀ (.Call (.Name id p) (e :: rest) [] pos) P := by
  intro s k hw E Q hQ
  refine wpAny_Call_NameR (hn s k hw E _ fun v s1 k1 hv => ?_)
  have hv : v = .builtin b := hv
  subst hv
  refine callWith_builtin1 (ha s1 (kps_trans k k1) (hw.mono (kps_kp k1)) _ E _ fun vs s2 k2 hvs => ?_) he hpl
  exact hc vs s2 (kps_trans k (kps_trans k1 k2)) hvs (hw.mono (kps_kp (kps_trans k1 k2))) E Q fun v s' k' hv => hQ v s' (kps_trans k1 (kps_trans k2 k')) hv

/-! ## what can be gone through -/
theorem walks_mono {I : Addr} {fp wr : List Addr} {n : Nat} {P P' : Nat → Value → Prop} {St : Nat → Heap → Prop} (x : Walks prog w A I fp wr n P St) (h : ∀ i v, i < n → P i v → P' i v) : Walks prog w A I fp wr n P' St :=
  { sub := x.sub, frame := x.frame, done := x.done, self := x.self, item := fun i s Q E hi st hQ => x.item i s Q E hi st fun v h' tk hp => hQ v h' tk (h i v hi hp) }
def nth (Ps : List VP) (i : Nat) : VP := Ps.getD i AnyV
theorem src_core {Ps : List VP} {a : Addr} {n : Nat} {vs : Array Value} {X : List Addr} (hA : A.handled = none) (g' : s.heap.get? a = some { cls := .type "list", data := .seq vs n }) (r : VAll (Vw W s.heap) Ps vs.toList) (ha : a ∉ X) (hX : ∀ b ∈ X, b ∈ W) : Src prog w W X A (.ref a) s Ps.length (nth Ps) := by
  intro hw E Q hQ
  have hl : s.heap.IsList a vs := ⟨_, g', rfl, n, rfl⟩
  refine wpAny_pyIter_list hl (hQ _ [s.heap.objs.size, a] (fun i h => h.IsListIter s.heap.objs.size a i ∧ h.IsList a vs) ?_ ?_ ?_ ?_ fun i h ⟨⟨o, e, c, _⟩, _⟩ => ⟨o, e, _, c, by decide⟩)
  · have hne : a ≠ s.heap.objs.size := Nat.ne_of_lt (Heap.lt_size g')
    have hlen : vs.size = Ps.length := by rw [← r.length]; simp
    rw [← hlen]
    refine walks_mono (Walks.list hA s.heap.objs.size a hne vs) fun i u hi hu => ?_
    have hp : Ps[i]? = some (nth Ps i) := by
      unfold nth
      rw [List.getD_eq_getElem?_getD]
      rw [hlen] at hi
      rw [List.getElem?_eq_getElem hi]; rfl
    obtain ⟨u', e1, e2⟩ := r.get i hp
    have : vs[i]? = some u' := by rw [← Array.getElem?_toList]; exact e1
    rw [this] at hu
    cases hu
    exact e2
  · exact ⟨⟨_, Heap.get?_push_size _ rfl, rfl, rfl⟩, ⟨_, Heap.get?_push_of_some _ g', rfl, n, rfl⟩⟩
  · intro b hb
    rw [Heap.size_push]
    rcases List.mem_cons.mp hb with rfl | hb
    · exact Nat.lt_succ_self _
    · rw [List.mem_singleton.mp hb]; exact Nat.lt_succ_of_lt (Heap.lt_size g')
  · intro b hb
    rcases List.mem_cons.mp hb with rfl | hb
    · exact fun m => hw.not_mem (hX _ m)
    · rw [List.mem_singleton.mp hb]; exact ha
theorem src_listX {Ps : List VP} {v : Value} {X : List Addr} (hA : A.handled = none) (hX : ∀ b ∈ X, b ∈ W) (hv : (LsV Ps).p v (Vw W s.heap)) : Src prog w W X A v s Ps.length (nth Ps) := by
  obtain ⟨a, n, vs, rfl, g, r⟩ := hv
  exact src_core hA (vw_of g).1 r (fun m => (vw_of g).2 (hX _ m)) hX
theorem src_list {Ps : List VP} {v : Value} (hA : A.handled = none) (hv : (LsV Ps).p v (Vw W s.heap)) : Src prog w W [] A v s Ps.length (nth Ps) := src_listX hA (fun _ m => nomatch m) hv
def RangeV (a b c : Int) : VP := ⟨fun v h => ∃ r t u k, v = .ref r ∧ IsRange h r a b c t u k, fun k ⟨r, t, u, k', e, g⟩ => ⟨r, t, u, k', e, k _ _ g⟩⟩
theorem src_range {a b c : Int} {n : Nat} {v : Value} {X : List Addr} (hX : ∀ b ∈ X, b ∈ W) (hA : A.handled = none) (hs : Builtin.Range.small a b c = true) (hn : Builtin.Range.rangeSize a b c = (n : Int)) (hv : (RangeV a b c).p v (Vw W s.heap)) : Src prog w W X A v s n (fun i => D (.int (a + i * c))) := by
  intro hw E Q hQ
  obtain ⟨r, t, u, k, rfl, g⟩ := hv
  refine wpAny_pyIter_range (vw_of g).1 hs (hQ _ [s.heap.objs.size] (fun i h => IsRangeIter h s.heap.objs.size (a + (i : Nat) * c) ((n : Int) - (i : Nat)) c) ?_ ?_ ?_ ?_ fun i h e => ⟨_, e, _, rfl, by decide⟩)
  · exact walks_mono (Walks.range hA s.heap.objs.size a c n) fun i u hi ⟨t, e⟩ => by subst e; exact d_ofInt _ _ _
  · rw [hn]
    have : IsRangeIter (s.heap.push { cls := .type "range_iterator", data := .fields #[rawInt a, rawInt (n : Int), rawInt c] }) s.heap.objs.size a n c := Heap.get?_push_size _ rfl
    simpa using this
  · intro b hb
    rw [List.mem_singleton.mp hb, Heap.size_push]; exact Nat.lt_succ_self _
  · intro b hb
    rw [List.mem_singleton.mp hb]; exact fun m => hw.not_mem (hX _ m)
def sign (x : Str) (i : Nat) : Str := ⟨#[x.cps.getD i 0]⟩
theorem src_str {x : Str} {v : Value} {X : List Addr} (hX : ∀ b ∈ X, b ∈ W) (hA : A.handled = none) (hv : (D (.str x)).p v (Vw W s.heap)) : Src prog w W X A v s x.cps.size (fun i => D (.str (sign x i))) := by
  intro hw E Q hQ
  obtain ⟨t, rfl⟩ := d_str hv
  have fit : ∀ i u, i < x.cps.size → SignAt x i u → (D (.str (sign x i))).p u (Vw W s.heap) := fun i u hi ⟨c, u', e1, e2⟩ => by
    subst e2
    have : sign x i = ⟨#[c]⟩ := by
      unfold sign
      rw [Array.getD_eq_getD_getElem?, e1]; rfl
    rw [this]; exact d_ofStr _ _ _
  have i1 : ∀ b ∈ [s.heap.objs.size], b ∉ X := fun b hb => by rw [List.mem_singleton.mp hb]; exact fun m => hw.not_mem (hX _ m)
  have i2 : ∀ o : Obj, ∀ b ∈ [s.heap.objs.size], b < (s.heap.push o).objs.size := fun o b hb => by rw [List.mem_singleton.mp hb, Heap.size_push]; exact Nat.lt_succ_self _
  cases ha : x.cps.all (· < 128)
  · exact wpAny_pyIter_wide ha (hQ _ _ _ (walks_mono (Walks.strWide hA _ x t) fit) ⟨_, Heap.get?_push_size _ rfl, rfl, rfl⟩ (i2 _) i1 fun i h ⟨o, e, c, _⟩ => ⟨o, e, _, c, by decide⟩)
  · exact wpAny_pyIter_ascii ha (hQ _ _ _ (walks_mono (Walks.strAscii hA _ x t) fit) ⟨_, Heap.get?_push_size _ rfl, rfl, rfl⟩ (i2 _) i1 fun i h ⟨o, e, c, _⟩ => ⟨o, e, _, c, by decide⟩)

/-! ## built-in calls -/
theorem call_range1 {n : Int} (vs : List Value) (s : Shared) (hv : VAll (Vw W s.heap) [D (.int n)] vs) : Ev prog w W A (call (.type "range") vs) (RangeV 0 n 1) s := by
  obtain ⟨⟩ | ⟨h1, h2⟩ := hv
  cases h2
  obtain ⟨t, rfl⟩ := d_int h1
  intro hw E Q hQ
  exact call_range_1 (hQ _ _ (kps_mk fun b o e => Heap.get?_push_of_some _ e) ⟨_, _, _, _, rfl, vw_to (Heap.get?_push_size _ rfl) hw.not_mem⟩)
theorem call_range2 {a b : Int} (vs : List Value) (s : Shared) (hv : VAll (Vw W s.heap) [D (.int a), D (.int b)] vs) : Ev prog w W A (call (.type "range") vs) (RangeV a b 1) s := by
  obtain ⟨⟩ | ⟨h1, h2⟩ := hv
  obtain ⟨⟩ | ⟨h3, h4⟩ := h2
  cases h4
  obtain ⟨t, rfl⟩ := d_int h1
  obtain ⟨u, rfl⟩ := d_int h3
  intro hw E Q hQ
  exact call_range_2 (hQ _ _ (kps_mk fun b o e => Heap.get?_push_of_some _ e) ⟨_, _, _, _, rfl, vw_to (Heap.get?_push_size _ rfl) hw.not_mem⟩)
theorem call_range3 {a b c : Int} (hc : c ≠ 0) (hc' : c.natAbs < 1073741824) (vs : List Value) (s : Shared) (hv : VAll (Vw W s.heap) [D (.int a), D (.int b), D (.int c)] vs) : Ev prog w W A (call (.type "range") vs) (RangeV a b c) s := by
  obtain ⟨⟩ | ⟨h1, h2⟩ := hv
  obtain ⟨⟩ | ⟨h3, h4⟩ := h2
  obtain ⟨⟩ | ⟨h5, h6⟩ := h4
  cases h6
  obtain ⟨t, rfl⟩ := d_int h1
  obtain ⟨u, rfl⟩ := d_int h3
  obtain ⟨k, rfl⟩ := d_int h5
  intro hw E Q hQ
  exact call_range_3 hc (hQ _ _ (kps_mk fun b o e => Heap.get?_push_of_some _ e) ⟨_, _, _, _, rfl, vw_to (Heap.get?_push_size _ rfl) hw.not_mem⟩) (.inl (PyProof.noPylong_small hc'))
end
end Mine
set_option maxRecDepth 100000
set_option linter.unusedVariables false
namespace Mine
open PySem PySem.Spec PySem.Calls PyProof.Rows PySem.W

section
variable {prog : Program} {w : World} {W : List Addr} {A : Around} {env : Env} {s₀ s : Shared} {K : Frag} {mg mb : Str → Option Value} {P P1 P2 : VP} {pos p : Pos} {value slice : Expr}

/-- the place of an item is asked of a built-in kind -/
def Plainly (T : String) (o : Value) (s : Shared) : Prop := (∃ id, typeLookup (.type T) "__getitem__" = pure (some (.builtin id))) ∧ s.TypeIs o T

theorem wp_sub {ops : Value → Value → List Value} {Q : Value → Shared → Prop} {E : Value → Shared → Prop} (hsl : ∀ o i, subscripted slice false o i = operate (ops o i) (getItem o i))
    (h : wpAny (model prog w) A (eval value env) (fun o s₁ => wpAny (model prog w) A (eval slice env) (fun i s₂ => (∃ T, Plainly T o s₂) ∧ wpAny (model prog w) A (getItem o i) Q E s₂) E s₁) E s) :
    wpAny (model prog w) A (eval (.Subscript value slice pos) env) Q E s := by
  rw [eval_Subscript]
  refine wpAny_bind (wpAny_mono h (fun o s₁ h₁ => wpAny_bind (wpAny_holding (wpAny_mono h₁ (fun i s₂ h₂ => wpAny_bind (wpAny_standAt ?_)) fun _ _ x => x))) fun _ _ x => x)
  obtain ⟨⟨T, ⟨id, hl⟩, hT⟩, hg⟩ := h₂
  refine wpAny_bind ?_
  rw [getitemInPython_of_ne hT.not_modules]
  refine wpAny_bind (wpAny_specialOf hT hl ?_)
  refine wpAny_pure ?_
  rw [hsl]
  exact wpAny_bind (wpAny_operating (wpAny_mono hg (fun r s₃ h₃ => wpAny_bind (wpAny_letTemporaryGo (wpAny_pure h₃))) fun _ _ x => x))

theorem pe_sub {ops : Value → Value → List Value} (hv : PE prog w W A env s₀ value P1) (hi : PE prog w W A env s₀ slice P2)
    (hg : ∀ o i s, P1.p o (Vw W s.heap) → P2.p i (Vw W s.heap) → (∃ T, Plainly T o s) ∧ Ev prog w W A (getItem o i) P s)
    (hsl : ∀ o i, subscripted slice false o i = operate (ops o i) (getItem o i) := by intro _ _; rfl) : PE prog w W A env s₀ (.Subscript value slice pos) P := by
  intro s k hw E Q hQ
  refine wp_sub hsl (hv s k hw E _ fun a s1 k1 ha => ?_)
  refine hi s1 (kps_trans k k1) (hw.mono (kps_kp k1)) E _ fun b s2 k2 hb => ?_
  obtain ⟨g1, g2⟩ := hg a b s2 (P1.mono (vw_mono (kps_kp k2)) ha) hb
  exact ⟨g1, g2 (hw.mono (kps_kp (kps_trans k1 k2))) E Q fun v s3 k3 hv => hQ v s3 (kps_trans k1 (kps_trans k2 k3)) hv⟩

theorem sub_list {Ps : List VP} {i : Nat} (hi : Ps[i]? = some P) (hs : (i : Int) < 2 ^ 63) (o v : Value) (s : Shared) (ho : (LsV Ps).p o (Vw W s.heap)) (hv : (D (.int (i : Int))).p v (Vw W s.heap)) :
    (∃ T, Plainly T o s) ∧ Ev prog w W A (getItem o v) P s := by
  obtain ⟨a, n, vs, rfl, g, r⟩ := ho
  obtain ⟨t, rfl⟩ := d_int hv
  have g' := (vw_of g).1
  have hl : s.heap.IsList a vs := ⟨_, g', rfl, n, rfl⟩
  obtain ⟨u, e1, e2⟩ := r.get i hi
  exact ⟨⟨"list", ⟨_, PySem.F.slot_list_getitem.lookup⟩, _, g', rfl⟩, fun _ E Q hQ => wpAny_getItem_list hl (Int.natCast_nonneg i) hs (by simpa using e1) (hQ _ _ (kps_refl _) e2)⟩
theorem sub_tuple {Ps : List VP} {i : Nat} (hi : Ps[i]? = some P) (hs : (i : Int) < 2 ^ 63) (o v : Value) (s : Shared) (ho : (TpV Ps).p o (Vw W s.heap)) (hv : (D (.int (i : Int))).p v (Vw W s.heap)) :
    (∃ T, Plainly T o s) ∧ Ev prog w W A (getItem o v) P s := by
  obtain ⟨a, n, vs, rfl, g, r⟩ := ho
  obtain ⟨t, rfl⟩ := d_int hv
  have g' := (vw_of g).1
  obtain ⟨u, e1, e2⟩ := r.get i hi
  have hlt : i < vs.size := by
    have := (List.getElem?_eq_some_iff.mp e1).1
    simpa using this
  have hT : s.TypeIs (.ref a) "tuple" := ⟨_, g', rfl⟩
  refine ⟨⟨"tuple", ⟨_, PySem.F.slot_tuple_getitem.lookup⟩, hT⟩, fun _ E Q hQ => PyProof.Rows.getItem_slot hT (by decide) PySem.F.slot_tuple_getitem
    (call_meets PySem.F.slot_tuple_getitem hT PySem.F.entry_tuple_getitem (PySem.F.args_tuple_getitem_2 _ _) (MeetsSeq.tuple_getitem_at a vs n i t i u (by omega) hs ?_ (by simpa using e1)) ⟨g', hQ _ _ (kps_refl _) e2⟩)⟩
  unfold seqIndex?
  simp
  omega
theorem sub_str {x : Str} {i : Nat} (hi : i < x.cps.size) (hs : (i : Int) < 2 ^ 63) (o v : Value) (s : Shared) (ho : (D (.str x)).p o (Vw W s.heap)) (hv : (D (.int (i : Int))).p v (Vw W s.heap)) :
    (∃ T, Plainly T o s) ∧ Ev prog w W A (getItem o v) (D (.str (sign x i))) s := by
  obtain ⟨t, rfl⟩ := d_str ho
  obtain ⟨u, rfl⟩ := d_int hv
  refine ⟨⟨"str", ⟨_, PySem.F.slot_str_getitem.lookup⟩, rfl⟩, fun _ E Q hQ => PyProof.Rows.getItem_str (c := x.cps.getD i 0) (by simp; omega) ?_ (hQ _ _ kps_tok (d_ofStr _ _ _))⟩
  have hlen : x.length = x.cps.size := rfl
  unfold seqIndex?
  rw [hlen]
  have h1 : ¬ ((i : Int) < 0) := by omega
  simp [h1, hi]

/-! ## slices of lists -/
theorem pick_vall {h : Heap} {Ps : List VP} {vs : Array Value} (r : VAll h Ps vs.toList) (b : Nat) : VAll h (Ps.take b) (slicePick vs none (some b) none).toList := by
  rw [slicePick_upto']
  have : ∀ {Ps : List VP} {l : List Value}, VAll h Ps l → ∀ b, VAll h (Ps.take b) (l.take b) := by
    intro Ps l r
    induction r with
    | nil => intro b; simpa using VAll.nil
    | cons a q ih => intro b; cases b with
      | zero => exact VAll.nil
      | succ b => exact .cons a (ih b)
  simpa using this r b
theorem pick_vall_from {h : Heap} {Ps : List VP} {vs : Array Value} (r : VAll h Ps vs.toList) (b : Nat) : VAll h (Ps.drop b) (slicePick vs (some b) none none).toList := by
  rw [slicePick_from']
  have : ∀ {Ps : List VP} {l : List Value}, VAll h Ps l → ∀ b, VAll h (Ps.drop b) (l.drop b) := by
    intro Ps l r
    induction r with
    | nil => intro b; simpa using VAll.nil
    | cons a q ih => intro b; cases b with
      | zero => exact .cons a q
      | succ b => exact ih b
  simpa using this r b

theorem wp_slice_list {lower upper st : Option Expr} {Q : Value → Shared → Prop} {E : Value → Shared → Prop} {ops : Value → Value → List Value} (hsl : ∀ o i, subscripted (.Slice lower upper st p) false o i = operate (ops o i) (getItem o i))
    (h : wpAny (model prog w) A (eval value env) (fun o s₁ => wpAny (model prog w) A (evalPart lower env) (fun vl s₂ => wpAny (model prog w) A (evalPart upper env) (fun vu s₃ => wpAny (model prog w) A (evalPart st env) (fun vt s₄ =>
      ∃ l items lo hi sp, o = .ref l ∧ s₄.heap.IsList l items ∧ items.size ≤ sizeLine ∧ IsPart vl lo ∧ IsPart vu hi ∧ IsPart vt sp ∧ sp ≠ some 0 ∧
        Q (.ref (s₄.heap.objs.size + 1)) { s₄ with heap := (s₄.heap.push { cls := .type "slice", data := .fields #[vl, vu, vt] }).push { cls := .type "list", data := .seq (slicePick items lo hi sp) } }) E s₃) E s₂) E s₁) E s) :
    wpAny (model prog w) A (eval (.Subscript value (.Slice lower upper st p) pos) env) Q E s := by
  refine wp_sub hsl (wpAny_mono h (fun o s₁ h₁ => wpAny_Slice (wpAny_mono h₁ (fun vl s₂ h₂ => wpAny_mono h₂ (fun vu s₃ h₃ => wpAny_mono h₃ (fun vt s₄ h₄ => ?_) fun _ _ e => e) fun _ _ e => e) fun _ _ e => e)) fun _ _ e => e)
  obtain ⟨l, items, lo, hi, sp, rfl, hl, hsz, pl, pu, pt, h0, hQ⟩ := h₄
  refine ⟨⟨"list", ⟨_, PySem.F.slot_list_getitem.lookup⟩, (hl.push _).typeIs⟩, wpAny_getItem_list_slice (hl.push _) (Heap.IsSliceOf.new ..) pl pu pt h0 ?_ hsz⟩
  rw [Heap.size_push]
  exact hQ

theorem sl_end {hh : Heap} {l : Addr} {vs : Array Value} {Ps : List VP} {vl vu vt : Value} {lo hi st : Option Int} (hw : WOK W s.heap) (r : VAll (Vw W s.heap) Ps (slicePick vs lo hi st).toList) :
    (LsV Ps).p (.ref (s.heap.objs.size + 1)) (Vw W ((s.heap.push { cls := .type "slice", data := .fields #[vl, vu, vt] }).push { cls := .type "list", data := .seq (slicePick vs lo hi st) })) := by
  refine ⟨_, 0, _, rfl, vw_to ?_ ?_, r.mono (vw_mono fun b o e => Heap.get?_push_of_some _ (Heap.get?_push_of_some _ e))⟩
  · have e := Heap.get?_push_size (s.heap.push { cls := .type "slice", data := .fields #[vl, vu, vt] }) (o := { cls := .type "list", data := .seq (slicePick vs lo hi st) }) rfl
    rw [Heap.size_push] at e
    exact e
  · exact hw.fresh (Nat.le_succ _)
/-- xs[:b] -/
theorem pe_upto {Ps : List VP} {b : Nat} {e : Expr} (hv : PE prog w W A env s₀ value (LsV Ps)) (he : PE prog w W A env s₀ e (D (.int (b : Int)))) (hsz : Ps.length ≤ sizeLine) : PE prog w W A env s₀ (.Subscript value (.Slice none (some e) none p) pos) (LsV (Ps.take b)) := by
  intro s k hw E Q hQ
  refine wp_slice_list (ops := fun o i => [i, o]) (fun _ _ => rfl) (hv s k hw E _ fun o s1 k1 ho => ?_)
  rw [evalPart_none, evalPart_some]
  refine wpAny_pure (he s1 (kps_trans k k1) (hw.mono (kps_kp k1)) E _ fun u s2 k2 hu => ?_)
  obtain ⟨a, n, vs, rfl, g, r⟩ := (LsV Ps).mono (vw_mono (kps_kp k2)) ho
  obtain ⟨t, rfl⟩ := d_int hu
  have hl : s2.heap.IsList a vs := ⟨_, (vw_of g).1, rfl, n, rfl⟩
  refine wpAny_pure ⟨a, vs, none, some b, none, rfl, hl, by rw [← r.length] at hsz; simpa using hsz, .none, .int _ _, .none, by simp, ?_⟩
  exact hQ _ _ (kps_trans (kps_trans k1 k2) (kps_heap fun b o e => Heap.get?_push_of_some _ (Heap.get?_push_of_some _ e))) (sl_end (hh := s.heap) (l := a) (hw.mono (kps_kp (kps_trans k1 k2))) (pick_vall r b))
/-- xs[b:] -/
theorem pe_from {Ps : List VP} {b : Nat} {e : Expr} (hv : PE prog w W A env s₀ value (LsV Ps)) (he : PE prog w W A env s₀ e (D (.int (b : Int)))) (hsz : Ps.length ≤ sizeLine) : PE prog w W A env s₀ (.Subscript value (.Slice (some e) none none p) pos) (LsV (Ps.drop b)) := by
  intro s k hw E Q hQ
  refine wp_slice_list (ops := fun o i => [i, o]) (fun _ _ => rfl) (hv s k hw E _ fun o s1 k1 ho => ?_)
  rw [evalPart_none, evalPart_some]
  refine he s1 (kps_trans k k1) (hw.mono (kps_kp k1)) E _ fun u s2 k2 hu => ?_
  obtain ⟨a, n, vs, rfl, g, r⟩ := (LsV Ps).mono (vw_mono (kps_kp k2)) ho
  obtain ⟨t, rfl⟩ := d_int hu
  have hl : s2.heap.IsList a vs := ⟨_, (vw_of g).1, rfl, n, rfl⟩
  refine wpAny_pure (wpAny_pure ⟨a, vs, some b, none, none, rfl, hl, by rw [← r.length] at hsz; simpa using hsz, .int _ _, .none, .none, by simp, ?_⟩)
  exact hQ _ _ (kps_trans (kps_trans k1 k2) (kps_heap fun b o e => Heap.get?_push_of_some _ (Heap.get?_push_of_some _ e))) (sl_end (hh := s.heap) (l := a) (hw.mono (kps_kp (kps_trans k1 k2))) (pick_vall_from r b))
/-- xs[:] -/
theorem pe_all {Ps : List VP} (hv : PE prog w W A env s₀ value (LsV Ps)) (hsz : Ps.length ≤ sizeLine) : PE prog w W A env s₀ (.Subscript value (.Slice none none none p) pos) (LsV Ps) := by
  intro s k hw E Q hQ
  refine wp_slice_list (ops := fun o i => [i, o]) (fun _ _ => rfl) (hv s k hw E _ fun o s1 k1 ho => ?_)
  rw [evalPart_none]
  obtain ⟨a, n, vs, rfl, g, r⟩ := ho
  have hl : s1.heap.IsList a vs := ⟨_, (vw_of g).1, rfl, n, rfl⟩
  refine wpAny_pure (wpAny_pure (wpAny_pure ⟨a, vs, none, none, none, rfl, hl, by rw [← r.length] at hsz; simpa using hsz, .none, .none, .none, by simp, ?_⟩))
  exact hQ _ _ (kps_trans k1 (kps_heap fun b o e => Heap.get?_push_of_some _ (Heap.get?_push_of_some _ e))) (sl_end (hh := s.heap) (l := a) (hw.mono (kps_kp k1)) (by rw [slicePick_all]; exact r))

/-! ## two lists joined -/
theorem op_add_list {Ps Ps' : List VP} (hsz : Ps.length + Ps'.length ≤ sizeLine) (a b : Value) (s : Shared) (ha : (LsV Ps).p a (Vw W s.heap)) (hb : (LsV Ps').p b (Vw W s.heap)) : Ev prog w W A (binaryOp .Add a b) (LsV (Ps ++ Ps')) s := by
  obtain ⟨l, n, vs, rfl, g, r⟩ := ha
  obtain ⟨l', n', vs', rfl, g', r'⟩ := hb
  intro hw E Q hQ
  have g1 := (vw_of g).1
  have g2 := (vw_of g').1
  have hl := r.length
  have hl' := r'.length
  refine concat_meets ⟨_, g1, rfl⟩ ⟨_, g2, rfl⟩ noFill_list_add seq_list_add PySem.F.slot_list_add PySem.F.entry_list_add (PySem.F.args_list_add_2 _ _) (list_addW l l' vs vs' n n' none none #[] #[] (by simp at hl hl'; omega)) ⟨g1, g2, ?_⟩
  exact hQ _ _ (kps_mk fun b o e => Heap.get?_push_of_some _ e) ⟨_, _, _, rfl, vw_to (Heap.get?_push_size _ rfl) hw.not_mem, by
    have := VAll.append r r'
    simpa using this.mono (vw_mono fun b o e => Heap.get?_push_of_some _ e)⟩

/-! ## methods of built-in kinds -/
def Callee (T : String) (v : Value) (s : Shared) : Prop := s.TypeIs v T ∧ ∀ a, v = .ref a → ∃ ob, s.heap.get? a = some ob ∧ ob.dict = none
theorem pe_methK {o : Expr} {name : Str} {apos : Pos} {args : List Expr} {T id : String} {Ps : List VP} (ho : PE prog w W A env s₀ o P1) (ha : PEs prog w W A env s₀ args Ps)
    (plain : PlainAttrs T) (slot : Slot T name id) (ty : typeOf (.builtin id) = pure (.type "method_descriptor"))
    (hT : ∀ v s, Keeps s₀ s → P1.p v (Vw W s.heap) → Callee T v s) (hc : ∀ v vs s, Keeps s₀ s → P1.p v (Vw W s.heap) → VAll (Vw W s.heap) Ps vs → Ev prog w W A (call (.builtin id) (v :: vs)) P s)
    (hbase : attributeBase o name env (eval o env) = eval o env := by rfl)
    (hfew : ((backTo pos (starEach args env)).all (fun x => !x.1) && (backToKw pos (keywordEach [] env)).all (fun x => x.1.isSome)
      && decide (args.length + ([] : List Keyword).length + (if ([] : List Keyword).isEmpty then 0 else 1) < 30)) = true := by rfl)
    (hline : (apos.endLine == pos.line) = true := by rfl)
    (hstar : (backTo pos (starEach args env)).any (·.1) = false := by rfl) :
    PE prog w W A env s₀ (.Call (.Attribute o name apos) args [] pos) P := by
  intro s k hw E Q hQ
  refine wpAny_Call_method_late hbase hfew hline rfl (ho s k hw E _ fun v s1 k1 hv => ?_)
  obtain ⟨t1, t2⟩ := hT v s1 (kps_trans k k1) hv
  refine ⟨T, id, plain, slot, ty, t1, t2, ?_⟩
  refine callWith_builtin hstar ?_
  have body : ∀ vs s2, Keeps s1 s2 → VAll (Vw W s2.heap) Ps vs → wpAny (model prog w) A (call (.builtin id) ([v] ++ vs) []) Q E s2 := fun vs s2 k2 hvs =>
    hc v vs s2 (kps_trans k (kps_trans k1 k2)) (P1.mono (vw_mono (kps_kp k2)) hv) hvs (hw.mono (kps_kp (kps_trans k1 k2))) E Q fun u s3 k3 hu => hQ u s3 (kps_trans k1 (kps_trans k2 k3)) hu
  have hall := ha s1 (kps_trans k k1) (hw.mono (kps_kp k1)) pos E (fun vs s2 => wpAny (model prog w) A (call (.builtin id) ([v] ++ vs) []) Q E s2) fun vs s2 k2 hvs => body vs s2 k2 hvs
  generalize hb : backTo pos (starEach args env) = trees at *
  cases trees with
  | nil => exact PyProof.Rows.evalArgs_none (fun Γ p hΓ => (hall Γ p hΓ) Γ p hΓ)
  | cons t ts =>
    obtain ⟨st, x⟩ := t
    have : st = false := by simpa using (List.any_eq_false.mp hstar (st, x) (.head _))
    subst this
    exact evalArgs_plain hall

theorem pe_meth {o : Expr} {name : Str} {apos : Pos} {args : List Expr} {T id : String} {Ps : List VP} (ho : PE prog w W A env s₀ o P1) (ha : PEs prog w W A env s₀ args Ps)
    (plain : PlainAttrs T) (slot : Slot T name id) (ty : typeOf (.builtin id) = pure (.type "method_descriptor"))
    (hT : ∀ v s, P1.p v (Vw W s.heap) → Callee T v s) (hc : ∀ v vs s, Keeps s₀ s → P1.p v (Vw W s.heap) → VAll (Vw W s.heap) Ps vs → Ev prog w W A (call (.builtin id) (v :: vs)) P s)
    (hbase : attributeBase o name env (eval o env) = eval o env := by rfl)
    (hfew : ((backTo pos (starEach args env)).all (fun x => !x.1) && (backToKw pos (keywordEach [] env)).all (fun x => x.1.isSome)
      && decide (args.length + ([] : List Keyword).length + (if ([] : List Keyword).isEmpty then 0 else 1) < 30)) = true := by rfl)
    (hline : (apos.endLine == pos.line) = true := by rfl)
    (hstar : (backTo pos (starEach args env)).any (·.1) = false := by rfl) :
    PE prog w W A env s₀ (.Call (.Attribute o name apos) args [] pos) P :=
  pe_methK ho ha plain slot ty (fun v s _ h => hT v s h) hc hbase hfew hline hstar

theorem callee_list {Ps : List VP} (v : Value) (s : Shared) (hv : (LsV Ps).p v (Vw W s.heap)) : Callee "list" v s := by
  obtain ⟨a, n, vs, rfl, g, r⟩ := hv
  exact ⟨⟨_, (vw_of g).1, rfl⟩, fun a' e => by cases e; exact ⟨_, (vw_of g).1, rfl⟩⟩
theorem callee_str {x : Str} (v : Value) (s : Shared) (hv : (D (.str x)).p v (Vw W s.heap)) : Callee "str" v s := by
  obtain ⟨t, rfl⟩ := d_str hv
  exact ⟨rfl, fun a e => by cases e⟩
theorem call_lower {x y : Str} (hy : Txt.lower x = y) (hl : x.length ≤ 5592405) (v : Value) (vs : List Value) (s : Shared) (hv : (D (.str x)).p v (Vw W s.heap)) (hvs : VAll (Vw W s.heap) [] vs) : Ev prog w W A (call (.builtin "str.lower") (v :: vs)) (D (.str y)) s := by
  cases hvs
  obtain ⟨t, rfl⟩ := d_str hv
  subst hy
  exact fun _ E Q hQ => SCL.lower hl fun _ => hQ _ _ kps_tok (d_ofStr _ _ _)
theorem call_upper {x y : Str} (hy : Txt.upper x = y) (hl : x.length ≤ 5592405) (v : Value) (vs : List Value) (s : Shared) (hv : (D (.str x)).p v (Vw W s.heap)) (hvs : VAll (Vw W s.heap) [] vs) : Ev prog w W A (call (.builtin "str.upper") (v :: vs)) (D (.str y)) s := by
  cases hvs
  obtain ⟨t, rfl⟩ := d_str hv
  subst hy
  exact fun _ E Q hQ => SCL.upper hl fun _ => hQ _ _ kps_tok (d_ofStr _ _ _)
end
end Mine
set_option maxRecDepth 100000
set_option linter.unusedVariables false
namespace Mine
open PySem PySem.Spec PySem.Calls PyProof.Rows PySem.W

/-- the objects that a frame itself changes: its names, its cells -/
def own (env : Env) : List Addr := env.locals :: (env.cells.map (·.1)).filterMap fun n => List.lookup n env.cells

structure Fm (env : Env) (B : Shared) (W : List Addr) (m cm : Str → Option Value) (s : Shared) : Prop where
  same : ∃ h tk, s = { B with heap := h, toks := tk }
  ns : s.heap.Ns env.locals m
  keep : Kp B.heap s.heap
  off : ∀ b ∈ own env, B.heap.get? b = none
  cell : ∀ n c, env.cells.lookup n = some c → s.heap.IsCell c (cm n)
  apart : env.cells.Pairwise fun x y => x.2 ≠ y.2
  above : ∀ n c, (n, c) ∈ env.cells → @LT.lt Nat _ env.locals c
  ok : WOK W s.heap
  own : ∀ b ∈ own env, b ∈ W
  fn : env.scope.kind = .function

theorem mem_own_loc (env : Env) : env.locals ∈ own env := .head _
theorem mem_own_cell {env : Env} {n : Str} {c : Addr} (h : env.cells.lookup n = some c) : c ∈ own env :=
  .tail _ (List.mem_filterMap.mpr ⟨n, List.mem_map.mpr ⟨(n, c), mem_of_lookup h, rfl⟩, h⟩)
theorem fm_call {env : Env} {s₀ s : Shared} {W : List Addr} {m cm : Str → Option Value} (x : InCallC s₀ env.locals m env.cells cm s) (hok : WOK W s.heap) (hown : ∀ b ∈ own env, b ∈ W) (hfn : env.scope.kind = .function) : Fm env s₀ W m cm s where
  same := x.toInCall.same
  ns := x.toInCall.ns
  keep := x.toInCall.keep
  off := fun b hb => by
    refine get_size_none _ ?_
    rcases List.mem_cons.mp hb with q | hb
    · rw [q]; exact x.toInCall.fresh
    · obtain ⟨n, _, hn⟩ := List.mem_filterMap.mp hb
      exact Nat.le_of_lt (Nat.lt_of_le_of_lt x.toInCall.fresh (x.above n b (mem_of_lookup hn)))
  cell := x.cell
  apart := x.apart
  above := x.above
  ok := hok
  own := hown
  fn := hfn
section
variable {prog : Program} {w : World} {W : List Addr} {A : Around} {env : Env} {s₀ s : Shared} {K : Frag} {mg mb : Str → Option Value} {P P1 P2 : VP} {pos p px : Pos} {m cm : Str → Option Value} {e : Expr} {rest : List Stmt} {x : Str}

theorem Fm.keeps {s' : Shared} (F : Fm env s₀ W m cm s) (k : Keeps s s') : Fm env s₀ W m cm s' := by
  obtain ⟨h, tk, rfl, k⟩ := k
  obtain ⟨h₁, tk₁, e⟩ := F.same
  exact ⟨⟨h, tk, by rw [e]⟩, F.ns.keeps k, F.keep.trans k, F.off, fun n c hc => (F.cell n c hc).keeps k, F.apart, F.above, F.ok.mono k, F.own, F.fn⟩
theorem Fm.done (F : Fm env s₀ W m cm s) : Keeps s₀ s := by
  obtain ⟨h, tk, e⟩ := F.same
  exact ⟨h, tk, e, fun b o q => by have := F.keep b o q; rw [e] at this; exact this⟩
theorem Fm.loc (F : Fm env s₀ W m cm s) : env.locals ∈ W := F.own _ (mem_own_loc _)
theorem Fm.cel (F : Fm env s₀ W m cm s) {n : Str} {c : Addr} (h : env.cells.lookup n = some c) : c ∈ W := F.own _ (mem_own_cell h)
theorem Fm.ne (F : Fm env s₀ W m cm s) {a b : Addr} {o : Obj} (h : a ∈ Mine.own env) (e : s₀.heap.get? b = some o) : b ≠ a := fun q => by rw [q, F.off a h] at e; cases e

theorem ld_local {v : Value} (F : Fm env s₀ W m cm s) (hm : m x = some v) (hp : P.p v (Vw W s.heap)) (hl : env.kindOf x = some .local := by rfl) : Ld prog w W A env s x P :=
  fun s' k _ E Q hQ => wpAny_loadName_local F.fn hl ((F.keeps k).ns) hm (hQ _ _ (kps_refl _) (P.mono (vw_mono (kps_kp k)) hp))
theorem ld_cell {v : Value} {c : Addr} (F : Fm env s₀ W m cm s) (hc : env.cells.lookup x = some c) (hm : cm x = some v) (hp : P.p v (Vw W s.heap)) (hl : env.kindOf x = some .cell := by rfl) : Ld prog w W A env s x P :=
  fun s' k _ E Q hQ => wpAny_loadName_cell F.fn hl hc (hm ▸ (F.keeps k).cell x c hc) (hQ _ _ (kps_refl _) (P.mono (vw_mono (kps_kp k)) hp))

/-- x = e, a name of the frame's own -/
theorem st_local {Q : Flow → Shared → Prop} {E : Value → Shared → Prop} (F : Fm env s₀ W m cm s) (he : PE prog w W A env s e P)
    (h : ∀ v s', Fm env s₀ W (fun y => if y = x then some v else m y) cm s' → Kp (Vw W s.heap) (Vw W s'.heap) → P.p v (Vw W s'.heap) → wpAny (model prog w) A (execs rest env) Q E s')
    (hl : env.kindOf x = some .local := by rfl) (hs : swapsWith e (some (.Name x px)) pos.line env = pure false := by rfl) :
    wpAny (model prog w) A (execs (.Assign [.Name x px] e pos :: rest) env) Q E s := by
  refine wpAny_execs_cons (wpAny_Assign_Name (he s (kps_refl s) F.ok E _ fun v s1 k1 hv => ?_) hs)
  have F1 := F.keeps k1
  have hp : (env.scope.kind == .class || (env.scope.kind == .module && env.locals != env.globals)) = false := by rw [F.fn]; rfl
  refine wpAny_storeName_local hl F1.ns (fun h' hn' hs' => ?_) hp
  have hL := F.loc
  have keep : ∀ b o, b ≠ env.locals → s1.heap.get? b = some o → h'.get? b = some o := fun b o hb e => hs'.extBut b o hb e
  have kv : Kp (Vw W s1.heap) (Vw W h') := fun b o e => vw_to (keep b o (fun q => (vw_of e).2 (q ▸ hL)) (vw_of e).1) (vw_of e).2
  refine h v _ ⟨?_, hn', fun b o e => ?_, F.off, fun n c hc => ?_, F1.apart, F1.above, ?_, F.own, F.fn⟩ ((vw_mono (kps_kp k1)).trans kv) (P.mono kv hv)
  · obtain ⟨h₁, tk, e⟩ := F1.same
    exact ⟨h', s1.toks + 1, by rw [e]⟩
  · exact keep b o (F.ne (mem_own_loc _) e) (F1.keep b o e)
  · exact (F1.cell n c hc).sameBut hs' (Nat.ne_of_gt (F1.above n c (mem_of_lookup hc)))
  · intro b hb
    obtain ⟨c, o, l, e⟩ := F1.ok b hb
    by_cases q : c = env.locals
    · obtain ⟨o', _, _, e', _⟩ := hn'
      exact ⟨c, o', l, by rw [q]; exact e'⟩
    · exact ⟨c, o, l, keep c o q e⟩
/-- x = e, a name that a block within closes over -/
theorem st_cell {Q : Flow → Shared → Prop} {E : Value → Shared → Prop} {c : Addr} (F : Fm env s₀ W m cm s) (he : PE prog w W A env s e P) (hc : env.cells.lookup x = some c)
    (h : ∀ v s', Fm env s₀ W m (fun y => if y = x then some v else cm y) s' → Kp (Vw W s.heap) (Vw W s'.heap) → P.p v (Vw W s'.heap) → wpAny (model prog w) A (execs rest env) Q E s')
    (hl : env.kindOf x = some .cell := by rfl) (hs : swapsWith e (some (.Name x px)) pos.line env = pure false := by rfl) :
    wpAny (model prog w) A (execs (.Assign [.Name x px] e pos :: rest) env) Q E s := by
  refine wpAny_execs_cons (wpAny_Assign_Name (he s (kps_refl s) F.ok E _ fun v s1 k1 hv => ?_) hs)
  have F1 := F.keeps k1
  have hLc := F1.above x c (mem_of_lookup hc)
  refine wpAny_storeName_cell F.fn hl hc (F1.cell x c hc) (fun h' hc' hs' => ?_)
  have keep : ∀ b o, b ≠ c → s1.heap.get? b = some o → h'.get? b = some o := fun b o hb e => hs'.extBut b o hb e
  have kv : Kp (Vw W s1.heap) (Vw W h') := fun b o e => vw_to (keep b o (fun q => (vw_of e).2 (q ▸ F.cel hc)) (vw_of e).1) (vw_of e).2
  refine h v _ ⟨?_, F1.ns.sameBut hs' (Nat.ne_of_lt hLc), fun b o e => ?_, F.off, fun n c' hn => ?_, F1.apart, F1.above, ?_, F.own, F.fn⟩ ((vw_mono (kps_kp k1)).trans kv) (P.mono kv hv)
  · obtain ⟨h₁, tk, e⟩ := F1.same
    exact ⟨h', s1.toks, by rw [e]⟩
  · exact keep b o (F.ne (mem_own_cell hc) e) (F1.keep b o e)
  · by_cases hn' : n = x
    · subst hn'
      rw [hc] at hn; cases hn
      simpa using hc'
    · rw [if_neg hn']
      exact (F1.cell n c' hn).sameBut hs' fun q => hn' (name_of_addr F1.apart (mem_of_lookup hn) (q ▸ mem_of_lookup hc))
  · intro b hb
    obtain ⟨c', o, l, e⟩ := F1.ok b hb
    by_cases q : c' = c
    · obtain ⟨o', e', _⟩ := hc'
      exact ⟨c', o', l, by rw [q]; exact e'⟩
    · exact ⟨c', o, l, keep c' o q e⟩
def retv : Flow → Value | .ret v => v | _ => .none
theorem st_return {Q : Flow → Shared → Prop} {E : Value → Shared → Prop} (F : Fm env s₀ W m cm s) (he : PE prog w W A env s e P) (h : ∀ v s', Fm env s₀ W m cm s' → Keeps s s' → P.p v (Vw W s'.heap) → Q (.ret v) s') :
    wpAny (model prog w) A (execs (.Return (some e) pos :: rest) env) Q E s :=
  wpAny_execs_cons (wpAny_Return_some (he s (kps_refl s) F.ok E _ fun v s1 k1 hv => h v s1 (F.keeps k1) k1 hv))

/-- room for k calls more -/
structure Room (A : Around) (k : Nat) : Prop where
  hd : A.handled = none
  depth : A.depth + k < 900
  units : A.units + 100 * k < 9000
theorem Room.less {k k' : Nat} (x : Room A k) (h : k' ≤ k) : Room A k' := ⟨x.hd, by have := x.depth; omega, by have := x.units; omega⟩
theorem Room.lt {k : Nat} (x : Room A k) : A.depth < recursionLimit := by have := x.depth; unfold recursionLimit; omega
theorem Room.un65 {k : Nat} (x : Room A k) : A.units + 65 < cLine := by have := x.units; unfold cLine; omega
theorem Room.un {k : Nat} (x : Room A k) : A.units + 64 < cLine := by have := x.units; unfold cLine; omega
theorem Room.deeper {k : Nat} {env' : Env} (x : Room A (k + 1)) : Room (A.deeper env') k := by
  refine ⟨x.hd, ?_, ?_⟩
  · have := x.depth
    have e : (A.deeper env').depth ≤ A.depth + 1 := by first | exact Nat.le_refl _ | (simp [Around.deeper])
    omega
  · have := x.units
    rw [Around.deeper_units]; omega

theorem ev_call {f : Addr} {o : Obj} {fd : FuncData} {body : List Stmt} {vals : List Value} {binds : List (Str × Value)} {k : Nat} (R : Room A (k + 1)) (hW : Wd K mg mb s.heap) (hlk : K.lookup f = some o) (hdat : o.data = .func fd)
    (hcd : codeIn K fd.code fd.qualname = true) (hbody : fd.body = .stmts body) (hbind : bindArgs fd ⟨vals, []⟩ = pure binds) (hclo : fd.closure = [])
    (hkind : (binds.all fun y => fd.scope.names.lookup y.1 == some .local || fd.scope.names.lookup y.1 == some .cell) = true)
    (hco : fd.scope.isCoroutine = false) (hgen : fd.scope.isGenerator = false) (hk : fd.scope.kind = .function)
    (h : ∀ (L : Addr) (env : Env) (A' : Around) (W' : List Addr) s₁, env = callEnvC fd L f → A' = A.deeper env → Room A' k → L = s.heap.objs.size → W' = own env ++ W → Fm env s W' (bindL env.kindOf binds fun _ => none) (bindC env.kindOf binds fun _ => none) s₁ → Kp (Vw W s.heap) (Vw W' s₁.heap) →
      wpAny (model prog w) A' (execs body env) (fun fl s' => Keeps s s' ∧ P.p (retv fl) (Vw W' s'.heap)) (fun _ _ => False) s₁) : Ev prog w W A (call (.ref f) vals) P s := by
  intro hw E Q hQ
  refine wpAny_call (codeAny_call_cells R.lt (hW.inK _ _ hlk) hdat hW.lim (codeRec_of hW.inK hcd) hbody hbind hclo (kindsX hkind _) (fun s₁ x => ?_) hco hgen hk)
  have F : Fm (callEnvC fd s.heap.objs.size f) s (own (callEnvC fd s.heap.objs.size f) ++ W) _ _ s₁ := fm_call x (fun b hb => ?_) (fun b hb => List.mem_append_left _ hb) hk
  · refine wpAny_mono (h _ _ _ _ s₁ rfl rfl R.deeper rfl rfl F fun b o e => ?_) (fun fl s' hl => ?_) fun _ _ x => x.elim
    · refine vw_to (x.toInCall.keep b o (vw_of e).1) fun hm => ?_
      rcases List.mem_append.mp hm with hm | hm
      · have hlt := Heap.lt_size (vw_of e).1
        rcases List.mem_cons.mp hm with q | hm
        · rw [q] at hlt; exact absurd hlt (Nat.lt_irrefl _)
        · obtain ⟨n, _, hn⟩ := List.mem_filterMap.mp hm
          exact absurd (Nat.lt_trans hlt (x.above n b (mem_of_lookup hn))) (Nat.lt_irrefl _)
      · exact (vw_of e).2 hm
    · have q := hQ _ s' hl.1 (P.mono (vw_sub fun b hb => List.mem_append_right _ hb) hl.2)
      cases fl <;> exact q
  · rcases List.mem_append.mp hb with hb | hb
    · rcases List.mem_cons.mp hb with rfl | hb
      · obtain ⟨o, _, _, e, _⟩ := x.toInCall.ns
        exact ⟨_, o, Nat.le_refl _, e⟩
      · obtain ⟨n, _, hn⟩ := List.mem_filterMap.mp hb
        obtain ⟨o, e, _⟩ := x.cell n b hn
        exact ⟨_, o, Nat.le_refl _, e⟩
    · obtain ⟨c, o, l, e⟩ := hw b hb
      exact ⟨c, o, l, x.toInCall.keep c o e⟩
end
end Mine
set_option maxRecDepth 100000
set_option linter.unusedVariables false
namespace Mine
open PySem PySem.Spec PySem.Calls PyProof.Rows PySem.W

section
variable {α : Type} {Po : α → VP} {tb : α → Bool}
theorem tup_list (xs : List α) : ∀ k, k ≤ xs.length → tup (fun i => (xs[i]?).elim AnyV Po) (fun i => (xs[i]?).elim false tb) k = ((xs.take k).filter tb).map Po
  | 0, _ => by simp [tup]
  | k + 1, h => by
    have hlt : k < xs.length := h
    rw [tup_succ, tup_list xs k (Nat.le_of_lt hlt), List.take_succ_eq_append_getElem hlt, List.filter_append, List.map_append]
    congr 1
    rw [List.getElem?_eq_getElem hlt]
    cases hb : tb xs[k] <;> simp [hb]
end

section
variable {prog : Program} {w : World} {W : List Addr} {A : Around} {env : Env} {s₀ s : Shared} {K : Frag} {mg mb : Str → Option Value} {P P1 P2 : VP} {pos p px : Pos} {m cm : Str → Option Value} {x : Str} {α : Type}

/-- gone through, the items are these -/
abbrev SrcX (prog : Program) (w : World) (W X : List Addr) (A : Around) (v : Value) (s : Shared) (Ps : List VP) : Prop := Src prog w W X A v s Ps.length (nth Ps)
abbrev Srcs (prog : Program) (w : World) (W : List Addr) (A : Around) (v : Value) (s : Shared) (Ps : List VP) : Prop := SrcX prog w W [] A v s Ps
theorem src_eq {n : Nat} {Pi Pi' : Nat → VP} {v : Value} {X : List Addr} (x : Src prog w W X A v s n Pi) (h : ∀ i, i < n → Pi i = Pi' i) : Src prog w W X A v s n Pi' := fun hw E Q hQ =>
  x hw E Q fun o fp St Wk => hQ o fp St (walks_mono Wk fun i v hi hp => by rw [h i hi] at hp; exact hp)
theorem srcx_range {a b c : Int} {n : Nat} {v : Value} {X : List Addr} (hX : ∀ b ∈ X, b ∈ W) (hA : A.handled = none) (hs : Builtin.Range.small a b c = true) (hn : Builtin.Range.rangeSize a b c = (n : Int)) (hv : (RangeV a b c).p v (Vw W s.heap)) :
    SrcX prog w W X A v s ((List.range n).map fun i : Nat => D (.int (a + (i : Int) * c))) := by
  have := src_range (prog := prog) (w := w) (s := s) hX hA hs hn hv
  unfold SrcX
  rw [List.length_map, List.length_range]
  refine src_eq this fun i hi => ?_
  unfold nth
  simp [List.getD_eq_getElem?_getD, hi]
def signs (x : Str) : List Str := (List.range x.cps.size).map (sign x)
theorem srcx_str {x : Str} {v : Value} {X : List Addr} (hX : ∀ b ∈ X, b ∈ W) (hA : A.handled = none) (hv : (D (.str x)).p v (Vw W s.heap)) : SrcX prog w W X A v s ((signs x).map fun y => D (.str y)) := by
  have := src_str (prog := prog) (w := w) (s := s) hX hA hv
  unfold SrcX signs
  rw [List.length_map, List.length_map, List.length_range]
  refine src_eq this fun i hi => ?_
  unfold nth
  simp [List.getD_eq_getElem?_getD, hi]

theorem srcs_range {a b c : Int} {n : Nat} {v : Value} (hA : A.handled = none) (hs : Builtin.Range.small a b c = true) (hn : Builtin.Range.rangeSize a b c = (n : Int)) (hv : (RangeV a b c).p v (Vw W s.heap)) :
    Srcs prog w W A v s ((List.range n).map fun i : Nat => D (.int (a + (i : Int) * c))) := srcx_range (fun _ m => nomatch m) hA hs hn hv
theorem srcs_str {x : Str} {v : Value} (hA : A.handled = none) (hv : (D (.str x)).p v (Vw W s.heap)) : Srcs prog w W A v s ((signs x).map fun y => D (.str y)) := srcx_str (fun _ m => nomatch m) hA hv
abbrev T0 (prog : Program) (w : World) (W : List Addr) (A : Around) (cenv : Addr → Env) (x : Str) (elt : Expr) (s₀ : Shared) (Pf Po : α → VP) (xs : List α) : Prop :=
  ∀ y ∈ xs, ∀ (W' : List Addr) (C : Addr) (s : Shared), Keeps s₀ s → Kp (Vw W s₀.heap) (Vw W' s.heap) → WOK W' s.heap → Ld prog w W' A (cenv C) s x (Pf y) → PE prog w W' A (cenv C) s elt (Po y)
abbrev T1 (prog : Program) (w : World) (W : List Addr) (A : Around) (cenv : Addr → Env) (x : Str) (c elt : Expr) (s₀ : Shared) (Pf Po : α → VP) (tb : α → Bool) (xs : List α) : Prop :=
  ∀ y ∈ xs, ∀ (W' : List Addr) (C : Addr) (s : Shared), Keeps s₀ s → Kp (Vw W s₀.heap) (Vw W' s.heap) → WOK W' s.heap → Ld prog w W' A (cenv C) s x (Pf y) → PT prog w W' A (cenv C) s c (tb y) ∧ (tb y = true → PE prog w W' A (cenv C) s elt (Po y))

theorem turn0 {elt : Expr} {scope : Scope} {cl : List (Str × Addr)} {Pf Po : α → VP} (xs : List α) (T : T0 prog w W A (fun C => compEnvC scope cl C env) x elt s₀ Pf Po xs) (hkind : scope.kind = .function) (hx : scope.names.lookup x = some .local) :
    Turn prog w W A (fun C => compEnvC scope cl C env) x [] elt s₀ (nth (xs.map Pf)) (fun i => (xs[i]?).elim AnyV Po) (fun i => (xs[i]?).elim false fun _ => true) xs.length := by
  intro i hi W' C s m v k kv hok hns hm hpi
  have hy : xs[i]? = some xs[i] := List.getElem?_eq_getElem hi
  have hp : (Pf xs[i]).p v (Vw W' s.heap) := by
    have : nth (xs.map Pf) i = Pf xs[i] := by unfold nth; simp [List.getD_eq_getElem?_getD, hi]
    rw [this] at hpi; exact hpi
  refine ⟨fun E Q hQ => ?_, fun _ => ?_⟩
  · simp only [hy, Option.elim] at hQ
    exact wpAny_pure (hQ s (kps_refl s))
  · have := T xs[i] (List.getElem_mem hi) W' C s k kv hok (fun s' k' _ E Q hQ => wpAny_loadName_local (by simp [compEnvC, relabel, hkind]) (lookup_relabel_local hx) (hns.keeps (kps_kp k')) hm (hQ _ _ (kps_refl _) ((Pf xs[i]).mono (vw_mono (kps_kp k')) hp))) s (kps_refl s)
    simp only [hy, Option.elim]
    exact this
theorem turn1 {c elt : Expr} {scope : Scope} {cl : List (Str × Addr)} {Pf Po : α → VP} {tb : α → Bool} (xs : List α) (T : T1 prog w W A (fun C => compEnvC scope cl C env) x c elt s₀ Pf Po tb xs) (hkind : scope.kind = .function) (hx : scope.names.lookup x = some .local) :
    Turn prog w W A (fun C => compEnvC scope cl C env) x [c] elt s₀ (nth (xs.map Pf)) (fun i => (xs[i]?).elim AnyV Po) (fun i => (xs[i]?).elim false tb) xs.length := by
  intro i hi W' C s m v k kv hok hns hm hpi
  have hy : xs[i]? = some xs[i] := List.getElem?_eq_getElem hi
  have hp : (Pf xs[i]).p v (Vw W' s.heap) := by
    have : nth (xs.map Pf) i = Pf xs[i] := by unfold nth; simp [List.getD_eq_getElem?_getD, hi]
    rw [this] at hpi; exact hpi
  obtain ⟨T1, T2⟩ := T xs[i] (List.getElem_mem hi) W' C s k kv hok (fun s' k' _ E Q hQ => wpAny_loadName_local (by simp [compEnvC, relabel, hkind]) (lookup_relabel_local hx) (hns.keeps (kps_kp k')) hm (hQ _ _ (kps_refl _) ((Pf xs[i]).mono (vw_mono (kps_kp k')) hp)))
  refine ⟨fun E Q hQ => ?_, fun hb => ?_⟩
  · simp only [hy, Option.elim] at hQ
    exact wpAny_tests_one (T1 s (kps_refl s) hok E Q fun s' k' => hQ s' k')
  · simp only [hy, Option.elim] at hb ⊢
    exact T2 hb s (kps_refl s)
theorem src_of {Pf : α → VP} {xs : List α} {Pit : VP} {X : List Addr} (hsrc : ∀ v s, Keeps s₀ s → Pit.p v (Vw W s.heap) → SrcX prog w W X A v s (xs.map Pf)) (v : Value) (s : Shared) (k : Keeps s₀ s) (hv : Pit.p v (Vw W s.heap)) : Src prog w W X A v s xs.length (nth (xs.map Pf)) := by
  have := hsrc v s k hv
  unfold SrcX at this
  rw [List.length_map] at this
  exact this
theorem tup0 {Po : α → VP} (xs : List α) : tup (fun i => (xs[i]?).elim AnyV Po) (fun i => (xs[i]?).elim false fun _ => true) xs.length = xs.map Po := by
  have e := tup_list (Po := Po) (tb := fun _ => true) xs xs.length (Nat.le_refl _)
  rw [List.take_length, show xs.filter (fun _ => true) = xs from List.filter_eq_self.mpr fun _ _ => rfl] at e
  exact e
theorem tup1 {Po : α → VP} {tb : α → Bool} (xs : List α) : tup (fun i => (xs[i]?).elim AnyV Po) (fun i => (xs[i]?).elim false tb) xs.length = (xs.filter tb).map Po := by
  have e := tup_list (Po := Po) (tb := tb) xs xs.length (Nat.le_refl _)
  rw [List.take_length] at e
  exact e

/-- one clause, no test -/
theorem pe_lc0F {elt iter : Expr} {scope : Scope} {cl : List (Str × Addr)} {Pit : VP} {Pf Po : α → VP} (xs : List α)
    (hiter : PE prog w W A env s₀ iter Pit) (hsrc : ∀ v s, Keeps s₀ s → Pit.p v (Vw W s.heap) → Srcs prog w W A v s (xs.map Pf)) (hn : xs.length ≤ sizeLine)
    (T : T0 prog w W A (fun C => compEnvC scope cl C env) x elt s₀ Pf Po xs)
    (hclos : closureFor scope env = pure cl := by rfl) (hcell : ∀ y ∈ scope.names, y.2 ≠ .cell := by decide) (hkind : scope.kind = .function := by rfl)
    (hnames : ∀ y ∈ scope.names, y.2 = .local → scope.names.lookup y.1 = some .local := by decide) (hx : scope.names.lookup x = some .local := by rfl)
    (hs : ∀ x, foldedSetIterable iter env x = pure x := by intro _; rfl) :
    PE prog w W A env s₀ (.ListComp elt [⟨.Name x px, iter, [], 0⟩] scope pos) (LsF s₀.heap (xs.map Po)) := by
  rw [← tup0]
  exact pe_listcomp hclos hcell hkind hnames hx hiter (src_of hsrc) hn (turn0 xs T hkind hx) hs
theorem pe_lc0 {elt iter : Expr} {scope : Scope} {cl : List (Str × Addr)} {Pit : VP} {Pf Po : α → VP} (xs : List α)
    (hiter : PE prog w W A env s₀ iter Pit) (hsrc : ∀ v s, Keeps s₀ s → Pit.p v (Vw W s.heap) → Srcs prog w W A v s (xs.map Pf)) (hn : xs.length ≤ sizeLine)
    (T : T0 prog w W A (fun C => compEnvC scope cl C env) x elt s₀ Pf Po xs)
    (hclos : closureFor scope env = pure cl := by rfl) (hcell : ∀ y ∈ scope.names, y.2 ≠ .cell := by decide) (hkind : scope.kind = .function := by rfl)
    (hnames : ∀ y ∈ scope.names, y.2 = .local → scope.names.lookup y.1 = some .local := by decide) (hx : scope.names.lookup x = some .local := by rfl)
    (hs : ∀ x, foldedSetIterable iter env x = pure x := by intro _; rfl) :
    PE prog w W A env s₀ (.ListComp elt [⟨.Name x px, iter, [], 0⟩] scope pos) (LsV (xs.map Po)) := (pe_lc0F xs hiter hsrc hn T hclos hcell hkind hnames hx hs).sub fun _ _ h => LsF.toLs h
/-- one clause, one test -/
theorem pe_lc1F {elt iter c : Expr} {scope : Scope} {cl : List (Str × Addr)} {Pit : VP} {Pf Po : α → VP} (xs : List α) (tb : α → Bool)
    (hiter : PE prog w W A env s₀ iter Pit) (hsrc : ∀ v s, Keeps s₀ s → Pit.p v (Vw W s.heap) → Srcs prog w W A v s (xs.map Pf)) (hn : xs.length ≤ sizeLine)
    (T : T1 prog w W A (fun C => compEnvC scope cl C env) x c elt s₀ Pf Po tb xs)
    (hclos : closureFor scope env = pure cl := by rfl) (hcell : ∀ y ∈ scope.names, y.2 ≠ .cell := by decide) (hkind : scope.kind = .function := by rfl)
    (hnames : ∀ y ∈ scope.names, y.2 = .local → scope.names.lookup y.1 = some .local := by decide) (hx : scope.names.lookup x = some .local := by rfl)
    (hs : ∀ x, foldedSetIterable iter env x = pure x := by intro _; rfl) :
    PE prog w W A env s₀ (.ListComp elt [⟨.Name x px, iter, [c], 0⟩] scope pos) (LsF s₀.heap ((xs.filter tb).map Po)) := by
  rw [← tup1]
  exact pe_listcomp hclos hcell hkind hnames hx hiter (src_of hsrc) hn (turn1 xs T hkind hx) hs

theorem pe_lc1 {elt iter c : Expr} {scope : Scope} {cl : List (Str × Addr)} {Pit : VP} {Pf Po : α → VP} (xs : List α) (tb : α → Bool)
    (hiter : PE prog w W A env s₀ iter Pit) (hsrc : ∀ v s, Keeps s₀ s → Pit.p v (Vw W s.heap) → Srcs prog w W A v s (xs.map Pf)) (hn : xs.length ≤ sizeLine)
    (T : T1 prog w W A (fun C => compEnvC scope cl C env) x c elt s₀ Pf Po tb xs)
    (hclos : closureFor scope env = pure cl := by rfl) (hcell : ∀ y ∈ scope.names, y.2 ≠ .cell := by decide) (hkind : scope.kind = .function := by rfl)
    (hnames : ∀ y ∈ scope.names, y.2 = .local → scope.names.lookup y.1 = some .local := by decide) (hx : scope.names.lookup x = some .local := by rfl)
    (hs : ∀ x, foldedSetIterable iter env x = pure x := by intro _; rfl) :
    PE prog w W A env s₀ (.ListComp elt [⟨.Name x px, iter, [c], 0⟩] scope pos) (LsV ((xs.filter tb).map Po)) := (pe_lc1F xs tb hiter hsrc hn T hclos hcell hkind hnames hx hs).sub fun _ _ h => LsF.toLs h
/-- y = [..], y a name of the frame's own: stored before the block's names go -/
theorem st_comp {elt iter : Expr} {y : Str} {py spos : Pos} {ifs : List Expr} {scope : Scope} {cl : List (Str × Addr)} {n : Nat} {Pit : VP} {Pi Po : Nat → VP} {tb : Nat → Bool} {rest : List Stmt} {Q : Flow → Shared → Prop} {E : Value → Shared → Prop} (F : Fm env s₀ W m cm s)
    (hsw : swapsWith (.ListComp elt [⟨.Name x px, iter, ifs, 0⟩] scope pos) (some (.Name y py)) spos.line env = pure true)
    (hclos : closureFor scope env = pure cl) (hcell : ∀ y ∈ scope.names, y.2 ≠ .cell) (hkind : scope.kind = .function)
    (hnames : ∀ y ∈ scope.names, y.2 = .local → scope.names.lookup y.1 = some .local) (hx : scope.names.lookup x = some .local) (hy : env.kindOf y = some .local)
    (hiter : PE prog w W A env s iter Pit) (hsrc : ∀ v s', Keeps s s' → Pit.p v (Vw W s'.heap) → Src prog w W [] A v s' n Pi) (hn : n ≤ sizeLine)
    (T : Turn prog w W A (fun C => compEnvC scope cl C env) x ifs elt s Pi Po tb n) (hs : ∀ x, foldedSetIterable iter env x = pure x)
    (h : ∀ v s', Fm env s₀ W (fun z => if z = y then some v else m z) cm s' → Kp (Vw W s.heap) (Vw W s'.heap) → (LsV (tup Po tb n)).p v (Vw W s'.heap) → wpAny (model prog w) A (execs rest env) Q E s') :
    wpAny (model prog w) A (execs (.Assign [.Name y py] (.ListComp elt [⟨.Name x px, iter, ifs, 0⟩] scope pos) spos :: rest) env) Q E s := by
  refine wpAny_execs_cons ?_
  rw [exec_Assign_Name_used _ _ _ _ hsw]
  refine wpAny_bind (wpAny_standAt (wpAny_bind ?_))
  show wpAny _ A (do let _ ← comprehension (.ListComp elt [⟨.Name x px, iter, ifs, 0⟩] scope pos) scope env _ (newList []) false (eval iter env) (some (assign (.Name y py) env))) _ _ s
  refine wpAny_bind (wpAny_mono (wpAny_comprehension_free (use := some (assign (.Name y py) env)) (Q := fun _ s' => wpAny (model prog w) A (execs rest env) Q E s') rfl hs hclos hkind hnames
    (hiter s (kps_refl s) F.ok E _ fun xv s₁ k₁ hv => hsrc xv s₁ k₁ hv (F.ok.mono (kps_kp k₁)) E _ fun o fp St Wk hst hfp _ _ => ?_)) (fun _ s' hq => wpAny_pure (wpAny_pure hq)) fun _ _ e => e)
  have F1 := F.keeps k₁
  refine comp_core (RR := fun acc C => compPost (model prog w) A E (some (assign (.Name y py) env)) (fun _ s' => wpAny (model prog w) A (execs rest env) Q E s') acc C) Wk hn hcell hkind hx hst hfp F1.ok (T.at k₁) ?_
  intro Dd C h' tk m' ys hD hC hDC hnC hpl hV hk
  have hLt : @LT.lt Nat _ env.locals s₁.heap.objs.size := by obtain ⟨o, _, _, ho, _⟩ := F1.ns; exact Heap.lt_size ho
  have hLC : env.locals ≠ C := Nat.ne_of_lt (Nat.lt_of_lt_of_le hLt hC)
  have hLD : env.locals ≠ Dd := Nat.ne_of_lt (Nat.lt_of_lt_of_le hLt hD)
  have hp : (env.scope.kind == .class || (env.scope.kind == .module && env.locals != env.globals)) = false := by rw [F.fn]; rfl
  show wpAny _ A (assign (.Name y py) env (.ref Dd)) _ _ _
  refine wpAny_assign_Name (wpAny_storeName_local hy (F1.ns.keeps hk) (fun h₂ hn₂ hs₂ => ?_) hp)
  refine ⟨m', hnC.sameBut hs₂ (Ne.symm hLC), fun h₃ hs₃ => ?_⟩
  dsimp only at hs₂ hs₃ hn₂ ⊢
  have keep : ∀ b o, b ≠ env.locals → b ≠ C → h'.get? b = some o → h₃.get? b = some o := fun b o hb hc e => hs₃.extBut b o hc (hs₂.extBut b o hb e)
  have keep1 : ∀ b o, b ≠ env.locals → s₁.heap.get? b = some o → h₃.get? b = some o := fun b o hb e => keep b o hb (by rintro rfl; rw [get_size_none _ hC] at e; cases e) (hk b o e)
  have kv : Kp (Vw W s₁.heap) (Vw W h₃) := fun b o e => vw_to (keep1 b o (fun q => (vw_of e).2 (q ▸ F.loc)) (vw_of e).1) (vw_of e).2
  have hWD : Dd ∉ W := F1.ok.fresh hD
  refine h _ _ ⟨?_, hn₂.sameBut hs₃ hLC, fun b o e => ?_, F.off, fun n c hc => ?_, F1.apart, F1.above, ?_, F.own, F.fn⟩ ((vw_mono (kps_kp k₁)).trans kv) ⟨Dd, _, ys, rfl, vw_to (keep _ _ (Ne.symm hLD) hDC hpl.choose_spec) hWD, hV.mono fun b o e => ?_⟩
  · obtain ⟨h₁, tk, e⟩ := F1.same
    exact ⟨h₃, _, by rw [e]⟩
  · exact keep1 b o (F.ne (mem_own_loc _) e) (F1.keep b o e)
  · have hcc := F1.cell n c hc
    obtain ⟨o, ho, hd⟩ := hcc
    exact ⟨o, keep1 c o (Nat.ne_of_gt (F1.above n c (mem_of_lookup hc))) ho, hd⟩
  · intro b hb
    obtain ⟨c, o, l, e⟩ := F1.ok b hb
    by_cases q : c = env.locals
    · obtain ⟨o', _, _, e', _⟩ := hn₂.sameBut hs₃ hLC
      exact ⟨c, o', l, by rw [q]; exact e'⟩
    · exact ⟨c, o, l, keep1 c o q e⟩
  · obtain ⟨e1, e2⟩ := vw_of e
    by_cases q : b = env.locals
    · exact absurd (List.mem_cons_of_mem _ (List.mem_cons_of_mem _ (List.mem_cons_of_mem _ (q ▸ F.loc)))) e2
    · exact vw_to (keep b o q (fun z => e2 (by simp [z])) e1) fun z => e2 (by simp [z])
theorem st_lc0 {elt iter : Expr} {y : Str} {py spos : Pos} {scope : Scope} {cl : List (Str × Addr)} {Pit : VP} {Pf Po : α → VP} {rest : List Stmt} {Q : Flow → Shared → Prop} {E : Value → Shared → Prop} (F : Fm env s₀ W m cm s) (xs : List α)
    (hiter : PE prog w W A env s iter Pit) (hsrc : ∀ v s', Keeps s s' → Pit.p v (Vw W s'.heap) → Srcs prog w W A v s' (xs.map Pf)) (hn : xs.length ≤ sizeLine)
    (T : T0 prog w W A (fun C => compEnvC scope cl C env) x elt s Pf Po xs)
    (h : ∀ v s', Fm env s₀ W (fun z => if z = y then some v else m z) cm s' → Kp (Vw W s.heap) (Vw W s'.heap) → (LsV (xs.map Po)).p v (Vw W s'.heap) → wpAny (model prog w) A (execs rest env) Q E s')
    (hsw : swapsWith (.ListComp elt [⟨.Name x px, iter, [], 0⟩] scope pos) (some (.Name y py)) spos.line env = pure true := by rfl)
    (hclos : closureFor scope env = pure cl := by rfl) (hcell : ∀ y ∈ scope.names, y.2 ≠ .cell := by decide) (hkind : scope.kind = .function := by rfl)
    (hnames : ∀ y ∈ scope.names, y.2 = .local → scope.names.lookup y.1 = some .local := by decide) (hx : scope.names.lookup x = some .local := by rfl) (hy : env.kindOf y = some .local := by rfl)
    (hs : ∀ x, foldedSetIterable iter env x = pure x := by intro _; rfl) :
    wpAny (model prog w) A (execs (.Assign [.Name y py] (.ListComp elt [⟨.Name x px, iter, [], 0⟩] scope pos) spos :: rest) env) Q E s :=
  st_comp F hsw hclos hcell hkind hnames hx hy hiter (src_of hsrc) hn (turn0 xs T hkind hx) hs fun v s' F' kv hv => h v s' F' kv (by rw [tup0] at hv; exact hv)
theorem st_lc1 {c elt iter : Expr} {y : Str} {py spos : Pos} {scope : Scope} {cl : List (Str × Addr)} {Pit : VP} {Pf Po : α → VP} {tb : α → Bool} {rest : List Stmt} {Q : Flow → Shared → Prop} {E : Value → Shared → Prop} (F : Fm env s₀ W m cm s) (xs : List α)
    (hiter : PE prog w W A env s iter Pit) (hsrc : ∀ v s', Keeps s s' → Pit.p v (Vw W s'.heap) → Srcs prog w W A v s' (xs.map Pf)) (hn : xs.length ≤ sizeLine)
    (T : T1 prog w W A (fun C => compEnvC scope cl C env) x c elt s Pf Po tb xs)
    (h : ∀ v s', Fm env s₀ W (fun z => if z = y then some v else m z) cm s' → Kp (Vw W s.heap) (Vw W s'.heap) → (LsV ((xs.filter tb).map Po)).p v (Vw W s'.heap) → wpAny (model prog w) A (execs rest env) Q E s')
    (hsw : swapsWith (.ListComp elt [⟨.Name x px, iter, [c], 0⟩] scope pos) (some (.Name y py)) spos.line env = pure true := by rfl)
    (hclos : closureFor scope env = pure cl := by rfl) (hcell : ∀ y ∈ scope.names, y.2 ≠ .cell := by decide) (hkind : scope.kind = .function := by rfl)
    (hnames : ∀ y ∈ scope.names, y.2 = .local → scope.names.lookup y.1 = some .local := by decide) (hx : scope.names.lookup x = some .local := by rfl) (hy : env.kindOf y = some .local := by rfl)
    (hs : ∀ x, foldedSetIterable iter env x = pure x := by intro _; rfl) :
    wpAny (model prog w) A (execs (.Assign [.Name y py] (.ListComp elt [⟨.Name x px, iter, [c], 0⟩] scope pos) spos :: rest) env) Q E s :=
  st_comp F hsw hclos hcell hkind hnames hx hy hiter (src_of hsrc) hn (turn1 xs T hkind hx) hs fun v s' F' kv hv => h v s' F' kv (by rw [tup1] at hv; exact hv)

/-- a name of the frame around, in a block within -/
theorem ld_free {v : Value} {c : Addr} {W' : List Addr} {C : Addr} {s₂ : Shared} {scope : Scope} {cl : List (Str × Addr)} (F : Fm env s₀ W m cm s) (k : Keeps s s₂) (kv : Kp (Vw W s.heap) (Vw W' s₂.heap)) (hc : env.cells.lookup x = some c) (hm : cm x = some v) (hp : P.p v (Vw W s.heap))
    (hcl : cl.lookup x = some c := by rfl) (hl : (compEnvC scope cl C env).kindOf x = some .cell := by rfl) (hk : scope.kind = .function := by rfl) : Ld prog w W' A (compEnvC scope cl C env) s₂ x P :=
  fun s' k' _ E Q hQ => wpAny_loadName_cell (by simp [compEnvC, relabel, hk]) hl hcl (hm ▸ (F.keeps (kps_trans k k')).cell x c hc) (hQ _ _ (kps_refl _) (P.mono (kv.trans (vw_mono (kps_kp k'))) hp))
end
end Mine
set_option maxRecDepth 100000
set_option maxHeartbeats 4000000
set_option linter.unusedVariables false
namespace Mine
open PySem PySem.Spec PySem.Calls PyProof.Rows PySem.W
noncomputable abbrev KK (w : World) : Frag := Mine.hd.heap_39 w.params
/-- a list of strs -/
abbrev SL (xs : List Str) : VP := LsV (xs.map fun x => D (.str x))
section
variable {prog : Program} {w : World} {W : List Addr} {A : Around} {env : Env} {s₀ s : Shared} {mg mb : Str → Option Value} {v : Value}

theorem alone_ok {xs : List Str} (R : Room A 1) (hW : Wd (KK w) mg mb s.heap) (hv : (SL xs).p v (Vw W s.heap)) (hsz : xs.length ≤ sizeLine) :
    Ev prog w W A (call (.ref 220) [v]) (LsV (xs.map fun x => LsV [D (.str x)])) s := by
  refine ev_call (K := KK w) R hW rfl rfl rfl rfl rfl rfl rfl rfl rfl rfl ?_
  intro L env A' W' s₁ he hA' R' hL hW' F kv
  clear hA' hW' R
  subst he
  refine st_return F (P := LsV (xs.map fun x => LsV [D (.str x)])) ?_ fun v s' F' k hp => ⟨F'.done, hp⟩
  refine pe_lc0 (cl := []) (Pit := SL xs) (Pf := fun x => D (.str x)) xs (pe_name (ld_local F rfl ((SL xs).mono kv hv))) (fun v s _ h => src_list R'.hd h) hsz ?_
  intro y hy W2 C s k kv2 hok hx
  exact pe_list (pes_cons (pe_name hx) pes_nil) (by show 1 ≤ sizeLine; decide)
end
end Mine
set_option maxRecDepth 100000
set_option linter.unusedVariables false
namespace Mine
open PySem PySem.Spec PySem.Calls PyProof.Rows PySem.W

theorem VAll.imp {h h' : Heap} : ∀ {Ps Ps' : List VP} {vs : List Value}, VAll h Ps vs → Ps.length = Ps'.length → (∀ (i : Nat) (P P' : VP), Ps[i]? = some P → Ps'[i]? = some P' → ∀ v, P.p v h → P'.p v h') → VAll h' Ps' vs
  | [], [], _, .nil, _, _ => .nil
  | P :: Ps, P' :: Ps', _, .cons a b, hl, hi => .cons (hi 0 P P' rfl rfl _ a) (VAll.imp b (by simpa using hl) fun i Q Q' e e' => hi (i + 1) Q Q' (by simpa using e) (by simpa using e'))
theorem LsV.imp {α : Type} {f g : α → VP} {xs : List α} {v : Value} {h : Heap} (x : (LsV (xs.map f)).p v h) (hi : ∀ a ∈ xs, ∀ u, (f a).p u h → (g a).p u h) : (LsV (xs.map g)).p v h := by
  obtain ⟨a, n, vs, rfl, e, r⟩ := x
  refine ⟨a, n, vs, rfl, e, r.imp (by simp) fun i P P' e e' u hu => ?_⟩
  rw [List.getElem?_map] at e e'
  cases hx : xs[i]? with
  | none => rw [hx] at e; cases e
  | some a =>
    rw [hx] at e e'
    cases e; cases e'
    exact hi a (List.mem_of_getElem? hx) u hu

/-- items that two == tells apart as their strs -/
structure Tells (f : Str → PyData) : Prop where
  shaped : ∀ x, PyData.strOk x = true → SeqAt.shaped (f x) = true
  eqv : ∀ x y, PyData.eqv (f x) (f y) = (x == y)
  inj : ∀ x y v h, (D (f x)).p v h → (D (f y)).p v h → x = y

section
variable {prog : Program} {w : World} {W : List Addr} {A : Around} {env : Env} {s₀ s : Shared} {K : Frag} {mg mb : Str → Option Value} {P P1 P2 : VP} {pos p px : Pos} {m cm : Str → Option Value} {x : Str} {f : Str → PyData}

theorem eqAt_of {a b : Value} {x y : PyData} (ha : (D x).p a s.heap) (hb : (D y).p b s.heap) (hx : SeqAt.shaped x = true) (hy : SeqAt.shaped y = true) (hu : A.units + 64 < cLine) : SeqAt.EqAt A s a b (PyData.eqv x y) := by
  obtain ⟨as, ra⟩ := ha
  obtain ⟨bs, rb⟩ := hb
  exact SeqAt.eqAt_reads _ _ A s a b as bs ra rb (SeqAt.canLay_of_shaped hx) (SeqAt.canLay_of_shaped hy) (SeqAt.room_of_shaped hx hu)

open Classical in
theorem count_vall (T : Tells f) {y : Str} {h : Heap} : ∀ {xs : List Str} {vs : List Value}, VAll h (xs.map fun x => D (f x)) vs → vs.countP (fun v => decide ((D (f y)).p v h)) = xs.count y
  | [], _, .nil => rfl
  | x :: xs, _, .cons (v := v) a b => by
    rw [List.countP_cons, count_vall T b, List.count_cons]
    congr 1
    by_cases e : x = y
    · subst e
      simp [a]
    · have : ¬ (D (f y)).p v h := fun q => e (T.inj x y v h a q)
      have e' : (x == y) = false := by simpa using e
      simp [this, e']
theorem call_count (T : Tells f) {xs : List Str} {y : Str} (hxs : ∀ x ∈ xs, PyData.strOk x = true) (hy : PyData.strOk y = true) (hu : A.units + 65 < cLine) (v : Value) (vs : List Value) (s : Shared) (hv : (LsV (xs.map fun x => D (f x))).p v (Vw W s.heap)) (hvs : VAll (Vw W s.heap) [D (f y)] vs) :
    Ev prog w W A (call (.builtin "list.count") (v :: vs)) (D (.int (xs.count y : Nat))) s := by
  classical
  obtain ⟨⟩ | ⟨h1, h2⟩ := hvs
  cases h2
  obtain ⟨a, n, us, rfl, g, r⟩ := hv
  intro hw E Q hQ
  have g' := (vw_of g).1
  have hT : s.TypeIs (.ref a) "list" := ⟨_, g', rfl⟩
  have r' : VAll s.heap (xs.map fun x => D (f x)) us.toList := r.mono (vw_kp _ _)
  have h1' := (D (f y)).mono (vw_kp _ _) h1
  refine call_meets PySem.F.slot_list_count hT PySem.F.entry_list_count (PySem.F.args_list_count_2 _ _) (SeqAt.list_countAt a us n none #[] _ (fun u => decide ((D (f y)).p u s.heap))) ⟨g', fun u hu' => ?_, ?_⟩
  · obtain ⟨i, hi, e⟩ := Array.mem_iff_getElem.mp hu'
    have hlen : us.size = xs.length := by have := r'.length; simpa using this
    have hp : (xs.map fun x => D (f x))[i]? = some (D (f xs[i])) := by
      rw [List.getElem?_map, List.getElem?_eq_getElem (by omega)]; rfl
    obtain ⟨u', e1, e2⟩ := r'.get i hp
    have : us[i]? = some u' := by rw [← Array.getElem?_toList]; exact e1
    rw [Array.getElem?_eq_getElem hi] at this
    cases this
    subst e
    have q := eqAt_of (A := A.in1) (s := s) e2 h1' (T.shaped _ (hxs _ (List.getElem_mem _))) (T.shaped _ hy) (by rw [Around.in1_units]; omega)
    rw [T.eqv] at q
    by_cases e : xs[i] = y
    · have : decide ((D (f y)).p us[i] s.heap) = (xs[i] == y) := by rw [e] at e2 ⊢; simp [e2]
      rw [this]; exact q
    · have : ¬ (D (f y)).p us[i] s.heap := fun z => e (T.inj _ _ _ _ e2 z)
      have : decide ((D (f y)).p us[i] s.heap) = (xs[i] == y) := by simp [this, e]
      rw [this]; exact q
  · rw [count_vall T r']
    exact hQ _ _ kps_tok (d_ofInt _ _ _)
theorem call_len {Ps : List VP} (hsz : Ps.length ≤ sizeLine) (vs : List Value) (s : Shared) (hvs : VAll (Vw W s.heap) [LsV Ps] vs) : Ev prog w W A (call (.builtin "len") vs) (D (.int (Ps.length : Nat))) s := by
  obtain ⟨⟩ | ⟨h1, h2⟩ := hvs
  cases h2
  obtain ⟨a, n, us, rfl, g, r⟩ := h1
  intro hw E Q hQ
  have hl : s.heap.IsList a us := ⟨_, (vw_of g).1, rfl, n, rfl⟩
  have hlen : us.size = Ps.length := by have := r.length; simpa using this
  refine Calls.call_len_list hl (by rw [hlen]; rw [sizeLine_eq] at hsz; omega) ?_
  rw [hlen]
  exact hQ _ _ kps_tok (d_ofInt _ _ _)

theorem call_len' {α : Type} {g : α → VP} {xs : List α} (hsz : xs.length ≤ sizeLine) (vs : List Value) (s : Shared) (hvs : VAll (Vw W s.heap) [LsV (xs.map g)] vs) : Ev prog w W A (call (.builtin "len") vs) (D (.int (xs.length : Nat))) s := by
  have := call_len (prog := prog) (w := w) (A := A) (Ps := xs.map g) (by rw [List.length_map]; exact hsz) vs s hvs
  rw [List.length_map] at this
  exact this
theorem boot_len : bootBuiltins "len" = some (.builtin "len") := by decide +kernel
theorem boot_sum : bootBuiltins "sum" = some (.builtin "sum") := by decide +kernel
theorem pe_neg {e : Expr} {x : Int} (he : PE prog w W A env s₀ e (D (.int x))) : PE prog w W A env s₀ (.UnaryOp .USub e pos) (D (.int (-x))) := by
  intro s k hw E Q hQ
  refine wpAny_UnaryOp (he s k hw E _ fun v s1 k1 hv => ?_)
  obtain ⟨t, rfl⟩ := d_int hv
  exact PyProof.Rows.neg_int (hQ _ _ (kps_trans k1 kps_tok) (d_ofInt _ _ _))
theorem size_down (n : Nat) : Builtin.Range.rangeSize ((n : Int) - 1) (-1) (-1) = (n : Int) := by
  unfold Builtin.Range.rangeSize
  simp
  omega
theorem size_up (n : Nat) : Builtin.Range.rangeSize 0 (n : Int) 1 = (n : Int) := by
  unfold Builtin.Range.rangeSize
  simp
  omega
theorem fit_down {n : Nat} (h : n ≤ sizeLine) : Builtin.Range.small ((n : Int) - 1) (-1) (-1) = true := by
  rw [sizeLine_eq] at h
  exact PySem.W.small_down (by omega) (by omega) (by omega) (by omega)
theorem fit_up {n : Nat} (h : n ≤ sizeLine) : Builtin.Range.small 0 (n : Int) 1 = true := by
  rw [sizeLine_eq] at h
  exact small_one (by omega) (by omega) (by omega) (by omega)
theorem one_str {h : Heap} {x y : Str} : ∀ {l : List Value} {as bs : List Addr}, ReadsAll h l [.str x] as → ReadsAll h l [.str y] bs → x = y
  | _, _, _, .cons (.str _ _) _, .cons (.str _ _) _ => rfl
theorem tells_str : Tells (fun x => .str x) where
  shaped := fun x hx => by simp [SeqAt.shaped, PyData.canLay0, PyData.depth, hx]
  eqv := fun x y => by simp [PyData.eqv]
  inj := fun x y v h a b => by
    obtain ⟨t, rfl⟩ := d_str a
    obtain ⟨u, e⟩ := d_str b
    cases e; rfl
theorem tells_one : Tells (fun x => .list [.str x]) where
  shaped := fun x hx => by simp [SeqAt.shaped, PyData.canLay0, PyData.canLayAll0, PyData.depth, PyData.depthAll, hx]
  eqv := fun x y => by simp [PyData.eqv, PyData.eqvAll]
  inj := fun x y v h a b => by
    obtain ⟨_, a⟩ := a
    obtain ⟨_, b⟩ := b
    cases a with
    | list g c d r =>
      cases b with
      | list g' c' d' r' =>
        rw [g] at g'
        cases g'
        rw [d] at d'
        cases d'
        exact one_str r r'
end
end Mine
set_option maxRecDepth 100000
set_option maxHeartbeats 4000000
set_option linter.unusedVariables false
namespace Mine
open PySem PySem.Spec PySem.Calls PyProof.Rows PySem.W
def dueG (xs : List Str) (i : Nat) : Str := xs.getD (xs.length - 1 - i) Str.empty
def dueL (takes box : List Str) : List Str := ((List.range takes.length).filter fun i => decide (((box.count (dueG takes i) : Nat) : Int) < ((takes.drop (takes.length - 1 - i)).count (dueG takes i) : Nat))).map (dueG takes)
def dueR (takes box : List Str) : List Str := ((List.range box.length).filter fun i => decide (((takes.count (box.getD i Str.empty) : Nat) : Int) < ((box.take (i + 1)).count (box.getD i Str.empty) : Nat))).map fun i => box.getD i Str.empty

section
variable {prog : Program} {w : World} {W : List Addr} {A : Around} {env : Env} {s₀ s : Shared} {mg mb : Str → Option Value} {v v' : Value} {f : Str → PyData}
abbrev FL (f : Str → PyData) (xs : List Str) : VP := LsV (xs.map fun x => D (f x))

theorem due_ok (T : Tells f) {takes box : List Str} (R : Room A 1) (hW : Wd (KK w) mg mb s.heap) (h1 : (FL f takes).p v (Vw W s.heap)) (h2 : (FL f box).p v' (Vw W s.heap)) (hs1 : takes.length ≤ sizeLine) (hs2 : box.length ≤ sizeLine)
    (ht : ∀ x ∈ takes, PyData.strOk x = true) (hb : ∀ x ∈ box, PyData.strOk x = true) :
    Ev prog w W A (call (.ref 225) [v, v']) (TpV [FL f (dueL takes box), FL f (dueR takes box)]) s := by
  refine ev_call (K := KK w) R hW rfl rfl rfl rfl rfl rfl rfl rfl rfl rfl ?_
  intro L env A' W' s₁ he hA' R' hL hW' F kv
  clear hA' hW' R
  subst he
  have k1 := (FL f takes).mono kv h1
  have k2 := (FL f box).mono kv h2
  have hW1 := hW.mono (kps_kp F.done)
  have ei : ∀ i ∈ List.range takes.length, D (.int (((takes.length : Nat) : Int) - 1 + (i : Int) * (-1))) = D (.int ((takes.length - 1 - i : Nat) : Int)) := fun i hi => by
    have hi' := List.mem_range.mp hi
    have : ((takes.length : Nat) : Int) - 1 + (i : Int) * (-1) = ((takes.length - 1 - i : Nat) : Int) := by omega
    rw [this]
  refine st_lc1 F (List.range takes.length) (Pit := RangeV (((takes.length : Nat) : Int) - 1) (-1) (-1)) (Pf := fun i : Nat => D (.int ((takes.length - 1 - i : Nat) : Int))) (Po := fun i => D (f (dueG takes i))) (tb := fun i => decide (((box.count (dueG takes i) : Nat) : Int) < ((takes.drop (takes.length - 1 - i)).count (dueG takes i) : Nat))) ?_ ?_ ?_ ?_ ?_
  · exact pe_call_type (pe_built hW1 rfl boot_range) (pes_cons (pe_bin (pe_call_builtin (pe_built hW1 rfl boot_len) (pes_cons (pe_name (ld_cell F rfl rfl k1)) pes_nil) (fun vs s k h => call_len' hs1 vs s h)) pe_int op_sub_int) (pes_cons (pe_neg pe_int) (pes_cons (pe_neg pe_int) pes_nil))) (fun vs s k h => call_range3 (by decide) (by decide) vs s h)
  · intro v s _ h
    have := srcs_range (prog := prog) (w := w) R'.hd (fit_down hs1) (size_down _) h
    rw [List.map_congr_left ei] at this
    exact this
  · rw [List.length_range]; exact hs1
  · intro i hi W2 C s k kv2 hok hx
    have hi' : i < takes.length := List.mem_range.mp hi
    have hg : (takes.map fun x => D (f x))[takes.length - 1 - i]? = some (D (f (dueG takes i))) := by
      have : takes.length - 1 - i < takes.length := by omega
      simp [dueG, List.getD_eq_getElem?_getD, this]
    have hfit : ((takes.length - 1 - i : Nat) : Int) < 2 ^ 63 := by rw [sizeLine_eq] at hs1; omega
    have hin : dueG takes i ∈ takes := by
      have : takes.length - 1 - i < takes.length := by omega
      unfold dueG
      rw [List.getD_eq_getElem?_getD, List.getElem?_eq_getElem this]
      exact List.getElem_mem _
    refine ⟨?_, fun _ => ?_⟩
    · refine pt_cmp (P1 := D (.int ((takes.drop (takes.length - 1 - i)).count (dueG takes i) : Nat))) (P2 := D (.int (box.count (dueG takes i) : Nat))) ?_ ?_ op_gt
      · refine pe_meth (P1 := FL f (takes.drop (takes.length - 1 - i))) ?_ (pes_cons (pe_sub (pe_name (ld_free F k kv2 rfl rfl k1)) (pe_name hx) (sub_list hg hfit)) pes_nil) PySem.F.plainAttrs_list PySem.F.slot_list_count PySem.F.type_list_count callee_list
          (fun v vs s _ h1 h2 => call_count T (fun x hx => ht x (List.mem_of_mem_drop hx)) (ht _ hin) R'.un65 v vs s h1 h2)
        show PE prog w W2 A' _ s _ (LsV ((takes.drop (takes.length - 1 - i)).map fun x => D (f x)))
        rw [List.map_drop]
        exact pe_from (pe_name (ld_free F k kv2 rfl rfl k1)) (pe_name hx) (by rw [List.length_map]; exact hs1)
      · exact pe_meth (P1 := FL f box) (pe_name (ld_free F k kv2 rfl rfl k2)) (pes_cons (pe_sub (pe_name (ld_free F k kv2 rfl rfl k1)) (pe_name hx) (sub_list hg hfit)) pes_nil) PySem.F.plainAttrs_list PySem.F.slot_list_count PySem.F.type_list_count callee_list
          (fun v vs s _ h1 h2 => call_count T hb (ht _ hin) R'.un65 v vs s h1 h2)
    · exact pe_sub (pe_name (ld_free F k kv2 rfl rfl k1)) (pe_name hx) (sub_list hg hfit)
  · intro v s2 F2 kv2 hv2
    have k1 := (FL f takes).mono kv2 k1
    have k2 := (FL f box).mono kv2 k2
    have hW1 := hW.mono (kps_kp F2.done)
    refine st_return F2 (P := TpV [FL f (dueL takes box), FL f (dueR takes box)]) ?_ fun v s' F' k hp => ⟨F'.done, hp⟩
    refine pe_tuple (pes_cons (pe_name (ld_local F2 rfl ?_)) (pes_cons ?_ pes_nil)) (by show 2 ≤ sizeLine; decide)
    · show (LsV ((dueL takes box).map fun x => D (f x))).p _ _
      unfold dueL
      rw [List.map_map]
      exact hv2
    · show PE prog w W' A' _ s2 _ (LsV ((dueR takes box).map fun x => D (f x)))
      unfold dueR
      rw [List.map_map]
      refine pe_lc1 (List.range box.length) (Pit := RangeV 0 (box.length : Nat) 1) (Pf := fun i : Nat => D (.int (i : Int))) (fun i => decide (((takes.count (box.getD i Str.empty) : Nat) : Int) < ((box.take (i + 1)).count (box.getD i Str.empty) : Nat))) ?_ ?_ ?_ ?_
      · exact pe_call_type (pe_built hW1 rfl boot_range) (pes_cons (pe_call_builtin (pe_built hW1 rfl boot_len) (pes_cons (pe_name (ld_cell F2 rfl rfl k2)) pes_nil) (fun vs s k h => call_len' hs2 vs s h)) pes_nil) (fun vs s k h => call_range1 vs s h)
      · intro v s _ h
        have := srcs_range (prog := prog) (w := w) R'.hd (fit_up hs2) (size_up _) h
        simpa using this
      · rw [List.length_range]; exact hs2
      · intro i hi W2 C s k kv2 hok hx
        have hi' : i < box.length := List.mem_range.mp hi
        have hg : (box.map fun x => D (f x))[i]? = some (D (f (box.getD i Str.empty))) := by
          simp [List.getD_eq_getElem?_getD, hi']
        have hfit : ((i : Nat) : Int) < 2 ^ 63 := by rw [sizeLine_eq] at hs2; omega
        have hin : box.getD i Str.empty ∈ box := by
          rw [List.getD_eq_getElem?_getD, List.getElem?_eq_getElem hi']
          exact List.getElem_mem _
        refine ⟨?_, fun _ => ?_⟩
        · refine pt_cmp (P1 := D (.int ((box.take (i + 1)).count (box.getD i Str.empty) : Nat))) (P2 := D (.int (takes.count (box.getD i Str.empty) : Nat))) ?_ ?_ op_gt
          · refine pe_meth (P1 := FL f (box.take (i + 1))) ?_ (pes_cons (pe_sub (pe_name (ld_free F2 k kv2 rfl rfl k2)) (pe_name hx) (sub_list hg hfit)) pes_nil) PySem.F.plainAttrs_list PySem.F.slot_list_count PySem.F.type_list_count callee_list
              (fun v vs s _ h1 h2 => call_count T (fun x hx => hb x (List.mem_of_mem_take hx)) (hb _ hin) R'.un65 v vs s h1 h2)
            show PE prog w W2 A' _ s _ (LsV ((box.take (i + 1)).map fun x => D (f x)))
            rw [List.map_take]
            exact pe_upto (b := i + 1) (pe_name (ld_free F2 k kv2 rfl rfl k2)) (pe_bin (pe_name hx) pe_int op_add_int) (by rw [List.length_map]; exact hs2)
          · exact pe_meth (P1 := FL f takes) (pe_name (ld_free F2 k kv2 rfl rfl k1)) (pes_cons (pe_sub (pe_name (ld_free F2 k kv2 rfl rfl k2)) (pe_name hx) (sub_list hg hfit)) pes_nil) PySem.F.plainAttrs_list PySem.F.slot_list_count PySem.F.type_list_count callee_list
              (fun v vs s _ h1 h2 => call_count T ht (hb _ hin) R'.un65 v vs s h1 h2)
        · exact pe_sub (pe_name (ld_free F2 k kv2 rfl rfl k2)) (pe_name hx) (sub_list hg hfit)
end
end Mine
set_option maxRecDepth 100000
set_option linter.unusedVariables false
namespace Mine
open PySem PySem.Spec PySem.Calls PyProof.Rows PySem.W

/-! ## objects that are changed -/
/-- all but M is kept -/
abbrev KB (M : List Addr) (s s' : Shared) : Prop := Keeps { s with heap := Vw M s.heap } s'
theorem kb_of {M : List Addr} {s s' : Shared} (k : Keeps s s') : KB M s s' := by
  obtain ⟨h, tk, rfl, k⟩ := k
  exact ⟨h, tk, rfl, (vw_kp _ _).trans k⟩
theorem kb_kp {M : List Addr} {s s' : Shared} (k : KB M s s') : Kp (Vw M s.heap) s'.heap := kps_kp k
theorem kb_mk {M : List Addr} {s : Shared} {h : Heap} {tk : Nat} (k : Kp (Vw M s.heap) h) : KB M s { s with heap := h, toks := tk } := ⟨h, tk, rfl, k⟩
theorem kb_mono {M M' : List Addr} {s s' : Shared} (hs : ∀ b ∈ M, b ∈ M') (k : KB M s s') : KB M' s s' := by
  obtain ⟨h, tk, rfl, k⟩ := k
  exact ⟨h, tk, rfl, (vw_sub hs).trans k⟩
theorem kb_trans {M : List Addr} {a b c : Shared} (x : KB M a b) (y : KB M b c) : KB M a c := by
  obtain ⟨h, tk, rfl, k⟩ := x
  obtain ⟨h', tk', rfl, k'⟩ := y
  exact ⟨h', tk', rfl, fun d o e => k' d o (vw_to (k d o e) (vw_of e).2)⟩
theorem kb_vw {M W : List Addr} {s s' : Shared} (hs : ∀ b ∈ M, b ∈ W) (k : KB M s s') : Kp (Vw W s.heap) (Vw W s'.heap) := fun b o e => vw_to (kb_kp k b o (vw_to (vw_of e).1 fun m => (vw_of e).2 (hs _ m))) (vw_of e).2
/-- what has come since may be changed -/
theorem kb_new {M : List Addr} {s₀ s s' : Shared} (k : Keeps s₀ s) (hM : ∀ b ∈ M, s₀.heap.get? b = none) (x : KB M s s') : Keeps s₀ s' := by
  obtain ⟨h, tk, rfl, k⟩ := k
  obtain ⟨h', tk', rfl, k'⟩ := x
  exact ⟨h', tk', rfl, fun b o e => k' b o (vw_to (k b o e) fun m => by rw [hM b m] at e; cases e)⟩

/-- a hidden list that is changed, of these items -/
def Mu (W : List Addr) (a : Addr) (Ps : List VP) (h : Heap) : Prop := ∃ vs, h.PlainList a vs ∧ VAll (Vw W h) Ps vs.toList
theorem Mu.mono {W : List Addr} {a : Addr} {Ps : List VP} {h h' : Heap} (x : Mu W a Ps h) (k : Kp h h') : Mu W a Ps h' := by
  obtain ⟨vs, ⟨n, g⟩, r⟩ := x
  exact ⟨vs, ⟨n, k _ _ g⟩, r.mono (vw_mono k)⟩
theorem Mu.kb {M W : List Addr} {a : Addr} {Ps : List VP} {s s' : Shared} (x : Mu W a Ps s.heap) (k : KB M s s') (hM : ∀ b ∈ M, b ∈ W) (ha : a ∉ M) : Mu W a Ps s'.heap := by
  obtain ⟨vs, ⟨n, g⟩, r⟩ := x
  exact ⟨vs, ⟨n, kb_kp k _ _ (vw_to g ha)⟩, r.mono (kb_vw hM k)⟩
theorem Mu.see {W W' : List Addr} {a : Addr} {Ps : List VP} {h : Heap} (x : Mu W a Ps h) (hs : ∀ b ∈ W', b ∈ W) (ha : a ∉ W') : (LsV Ps).p (.ref a) (Vw W' h) := by
  obtain ⟨vs, ⟨n, g⟩, r⟩ := x
  exact ⟨a, n, vs, rfl, vw_to g ha, r.mono (vw_sub hs)⟩
theorem Mu.sub {W W' : List Addr} {a : Addr} {Ps : List VP} {h : Heap} (x : Mu W a Ps h) (hs : ∀ b ∈ W', b ∈ W) : Mu W' a Ps h := by
  obtain ⟨vs, g, r⟩ := x
  exact ⟨vs, g, r.mono (vw_sub hs)⟩
theorem Mu.lt {W : List Addr} {a : Addr} {Ps : List VP} {h : Heap} (x : Mu W a Ps h) : @LT.lt Nat _ a h.objs.size := by
  obtain ⟨vs, ⟨n, g⟩, r⟩ := x
  exact Heap.lt_size g
theorem Mu.out {W : List Addr} {a I : Addr} {Ps : List VP} {h : Heap} (x : Mu W a Ps (h.hide I)) : Mu (I :: W) a Ps h := by
  obtain ⟨vs, ⟨n, g⟩, r⟩ := x
  exact ⟨vs, ⟨n, Heap.of_hide g⟩, r⟩
theorem Mu.hide {W : List Addr} {a I : Addr} {Ps : List VP} {h : Heap} (x : Mu (I :: W) a Ps h) (hn : a ≠ I) : Mu W a Ps (h.hide I) := by
  obtain ⟨vs, ⟨n, g⟩, r⟩ := x
  exact ⟨vs, ⟨n, (Heap.hide_ne h hn).trans g⟩, r⟩

theorem LsF.mu {h₀ : Heap} {Ps : List VP} {v : Value} {W : List Addr} {h : Heap} (x : (LsF h₀ Ps).p v (Vw W h)) : ∃ a, v = .ref a ∧ h₀.get? a = none ∧ a ∉ W ∧ Mu (a :: W) a Ps h := by
  obtain ⟨a, k, vs, e, l, g, r⟩ := x
  refine ⟨a, e, l, (vw_of g).2, vs, ⟨k, (vw_of g).1⟩, r.mono fun b o e => ?_⟩
  obtain ⟨e1, e2⟩ := vw_of e
  exact vw_to (vw_of e1).1 fun m => (List.mem_cons.mp m).elim (fun q => e2 (by simp [q])) (vw_of e1).2
theorem Mu.fresh {W W' : List Addr} {a : Addr} {Ps : List VP} {h h₀ : Heap} (x : Mu W a Ps h) (hs : ∀ b ∈ a :: W', b ∈ W) (ha : a ∉ W') (hn : h₀.get? a = none) : (LsF h₀ Ps).p (.ref a) (Vw W' h) := by
  obtain ⟨vs, ⟨k, g⟩, r⟩ := x
  refine ⟨a, k, vs, rfl, hn, vw_to g ha, r.mono fun b o e => ?_⟩
  obtain ⟨e1, e2⟩ := vw_of e
  exact vw_to (vw_to e1 fun m => e2 (hs _ (.tail _ m))) fun m => e2 (by rw [List.mem_singleton.mp m]; exact hs _ (.head _))
/-- what stood is not the one just made -/
theorem kv_hide {W : List Addr} {h h' : Heap} {a : Addr} (k : Kp (Vw W h) (Vw W h')) (ha : h.get? a = none) : Kp (Vw W h) (Vw (a :: W) h') := fun b o e =>
  vw_to (vw_of (k b o e)).1 fun m => (List.mem_cons.mp m).elim (fun q => by rw [q] at e; have := (vw_of e).1; rw [ha] at this; cases this) (vw_of e).2

section
variable {prog : Program} {w : World} {W : List Addr} {A : Around} {env : Env} {s₀ s : Shared} {K : Frag} {mg mb : Str → Option Value} {P P1 P2 : VP} {pos p px : Pos} {m cm : Str → Option Value} {x : Str} {e : Expr} {rest : List Stmt}

/-- what a tree yields that changes M alone -/
def EvM (prog : Program) (w : World) (M W : List Addr) (A : Around) (t : Sem Value) (R : Value → Heap → Prop) (s : Shared) : Prop :=
  WOK W s.heap → ∀ (E : Value → Shared → Prop) (Q : Value → Shared → Prop), (∀ v s', KB M s s' → WOK W s'.heap → R v s'.heap → Q v s') → wpAny (model prog w) A t Q E s

theorem Fm.hideMore (F : Fm env s₀ W m cm s) {W' : List Addr} (hs : ∀ b ∈ W, b ∈ W') (ok : WOK W' s.heap) : Fm env s₀ W' m cm s := ⟨F.same, F.ns, F.keep, F.off, F.cell, F.apart, F.above, ok, fun b hb => hs b (F.own b hb), F.fn⟩
theorem Fm.hideLess (F : Fm env s₀ W m cm s) {W' : List Addr} (hs : ∀ b ∈ W', b ∈ W) (ho : ∀ b ∈ Mine.own env, b ∈ W') : Fm env s₀ W' m cm s := ⟨F.same, F.ns, F.keep, F.off, F.cell, F.apart, F.above, fun b hb => F.ok b (hs b hb), ho, F.fn⟩
/-- the list just made is hidden -/
theorem Fm.hide (F : Fm env s₀ W m cm s) {a : Addr} {Ps : List VP} (x : Mu (a :: W) a Ps s.heap) : Fm env s₀ (a :: W) m cm s := by
  obtain ⟨vs, ⟨n, g⟩, _⟩ := x
  exact F.hideMore (fun b hb => .tail _ hb) (F.ok.cons g)
/-- M is changed -/
theorem Fm.kb (F : Fm env s₀ W m cm s) {M : List Addr} {s' : Shared} (k : KB M s s') (ok : WOK W s'.heap) (hM : ∀ b ∈ M, b ∉ Mine.own env ∧ s₀.heap.get? b = none) : Fm env s₀ W m cm s' := by
  obtain ⟨h, tk, rfl, k⟩ := k
  obtain ⟨h₁, tk₁, e⟩ := F.same
  refine ⟨⟨h, tk, by rw [e]⟩, F.ns.at' fun o q => k _ _ (vw_to q fun z => (hM _ z).1 (mem_own_loc _)), fun b o q => k _ _ (vw_to (F.keep b o q) fun z => by rw [(hM _ z).2] at q; cases q), F.off, fun n c hc => ?_, F.apart, F.above, ok, F.own, F.fn⟩
  obtain ⟨o, ho, hd⟩ := F.cell n c hc
  exact ⟨o, k _ _ (vw_to ho fun z => (hM _ z).1 (mem_own_cell hc)), hd⟩
/-- seen from here on -/
theorem Fm.rebase (F : Fm env s₀ W m cm s) {X : List Addr} (ho : ∀ b ∈ Mine.own env, b ∈ X) : Fm env { s with heap := Vw X s.heap } W m cm s :=
  ⟨⟨s.heap, s.toks, rfl⟩, F.ns, vw_kp _ _, fun b hb => hideAll_none X (ho b hb), F.cell, F.apart, F.above, F.ok, F.own, F.fn⟩
theorem Fm.back {s' : Shared} {m' cm' : Str → Option Value} {W' X : List Addr} (F : Fm env s₀ W m cm s) (F' : Fm env { s with heap := Vw X s.heap } W' m' cm' s') (hX : ∀ b ∈ X, s₀.heap.get? b = none) : Fm env s₀ W' m' cm' s' := by
  obtain ⟨h, tk, e⟩ := F'.same
  obtain ⟨h₁, tk₁, e₁⟩ := F.same
  refine ⟨⟨h, tk, by rw [e, e₁]⟩, F'.ns, fun b o q => F'.keep b o (vw_to (F.keep b o q) fun z => by rw [hX _ z] at q; cases q), F.off, F'.cell, F'.apart, F'.above, F'.ok, F'.own, F'.fn⟩
/-- less is to be kept -/
theorem Fm.forget (F : Fm env s₀ W m cm s) (M : List Addr) : Fm env { s₀ with heap := Vw M s₀.heap } W m cm s := by
  obtain ⟨h, tk, e⟩ := F.same
  refine ⟨⟨h, tk, by rw [e]⟩, F.ns, (vw_kp _ _).trans F.keep, fun b hb => ?_, F.cell, F.apart, F.above, F.ok, F.own, F.fn⟩
  cases q : (Vw M s₀.heap).get? b with
  | none => rfl
  | some o => have := (vw_of q).1; rw [F.off b hb] at this; cases this

theorem ev_callM {f : Addr} {o : Obj} {fd : FuncData} {body : List Stmt} {vals : List Value} {binds : List (Str × Value)} {k : Nat} {M : List Addr} {R : Value → Heap → Prop} (Rm : Room A (k + 1)) (hW : Wd K mg mb s.heap) (hlk : K.lookup f = some o) (hdat : o.data = .func fd)
    (hcd : codeIn K fd.code fd.qualname = true) (hbody : fd.body = .stmts body) (hbind : bindArgs fd ⟨vals, []⟩ = pure binds) (hclo : fd.closure = [])
    (hkind : (binds.all fun y => fd.scope.names.lookup y.1 == some .local || fd.scope.names.lookup y.1 == some .cell) = true)
    (hco : fd.scope.isCoroutine = false) (hgen : fd.scope.isGenerator = false) (hk : fd.scope.kind = .function)
    (h : ∀ (L : Addr) (env : Env) (A' : Around) (W' : List Addr) s₁, env = callEnvC fd L f → A' = A.deeper env → Room A' k → L = s.heap.objs.size → W' = own env ++ W → Fm env { s with heap := Vw M s.heap } W' (bindL env.kindOf binds fun _ => none) (bindC env.kindOf binds fun _ => none) s₁ → Kp (Vw W s.heap) (Vw W' s₁.heap) → Kp s.heap s₁.heap → (∀ b ∈ own env, s.heap.get? b = none) →
      wpAny (model prog w) A' (execs body env) (fun fl s' => KB M s s' ∧ WOK W s'.heap ∧ R (retv fl) s'.heap) (fun _ _ => False) s₁) : EvM prog w M W A (call (.ref f) vals) R s := by
  intro hw E Q hQ
  refine wpAny_call (codeAny_call_cells Rm.lt (hW.inK _ _ hlk) hdat hW.lim (codeRec_of hW.inK hcd) hbody hbind hclo (kindsX hkind _) (fun s₁ x => ?_) hco hgen hk)
  have F : Fm (callEnvC fd s.heap.objs.size f) s (own (callEnvC fd s.heap.objs.size f) ++ W) _ _ s₁ := fm_call x (fun b hb => ?_) (fun b hb => List.mem_append_left _ hb) hk
  · refine wpAny_mono (h _ _ _ _ s₁ rfl rfl Rm.deeper rfl rfl (F.forget M) (fun b o e => ?_) F.keep F.off) (fun fl s' hl => ?_) fun _ _ x => x.elim
    · refine vw_to (x.toInCall.keep b o (vw_of e).1) fun hm => ?_
      rcases List.mem_append.mp hm with hm | hm
      · have := F.off b hm
        rw [(vw_of e).1] at this; cases this
      · exact (vw_of e).2 hm
    · have q := hQ _ s' hl.1 hl.2.1 hl.2.2
      cases fl <;> exact q
  · rcases List.mem_append.mp hb with hb | hb
    · rcases List.mem_cons.mp hb with rfl | hb
      · obtain ⟨o, _, _, e, _⟩ := x.toInCall.ns
        exact ⟨_, o, Nat.le_refl _, e⟩
      · obtain ⟨n, _, hn⟩ := List.mem_filterMap.mp hb
        obtain ⟨o, e, _⟩ := x.cell n b hn
        exact ⟨_, o, Nat.le_refl _, e⟩
    · obtain ⟨c, o, l, e⟩ := hw b hb
      exact ⟨c, o, l, x.toInCall.keep c o e⟩

/-! ## statements -/
/-- what is asked behind a block within a block -/
def Nx (prog : Program) (w : World) (A : Around) (env : Env) (rest : List Stmt) (Q : Flow → Shared → Prop) (E : Value → Shared → Prop) : Flow → Shared → Prop
  | .next, s => wpAny (model prog w) A (execs rest env) Q E s
  | f, s => Q f s
theorem st_if {b : Bool} {t : Expr} {body orelse : List Stmt} {Q : Flow → Shared → Prop} {E : Value → Shared → Prop} (F : Fm env s₀ W m cm s) (ht : PT prog w W A env s t b)
    (h1 : b = true → ∀ s', Fm env s₀ W m cm s' → Keeps s s' → wpAny (model prog w) A (execs body env) (Nx prog w A env rest Q E) E s')
    (h2 : b = false → ∀ s', Fm env s₀ W m cm s' → Keeps s s' → wpAny (model prog w) A (execs orelse env) (Nx prog w A env rest Q E) E s') :
    wpAny (model prog w) A (execs (.If t body orelse pos :: rest) env) Q E s := by
  refine wpAny_execs_cons (wpAny_If (ht s (kps_refl s) F.ok E _ fun s' k => ?_))
  cases b with
  | true =>
    simp only [if_true]
    exact wpAny_mono (h1 rfl s' (F.keeps k) k) (fun f s'' h => by cases f <;> exact h) fun _ _ e => e
  | false =>
    simp only [Bool.false_eq_true, if_false]
    exact wpAny_mono (h2 rfl s' (F.keeps k) k) (fun f s'' h => by cases f <;> exact h) fun _ _ e => e
end
end Mine
set_option maxRecDepth 100000
set_option linter.unusedVariables false
namespace Mine
open PySem PySem.Spec PySem.Calls PyProof.Rows PySem.W

section
variable {prog : Program} {w : World} {W : List Addr} {A : Around} {env : Env} {s₀ s : Shared} {K : Frag} {mg mb : Str → Option Value} {P P1 P2 : VP} {pos p px : Pos} {m cm : Str → Option Value} {x : Str} {e : Expr} {rest : List Stmt} {α : Type}

theorem pe_listF {es : List Expr} {Ps : List VP} (h : PEs prog w W A env s₀ es Ps) (hn : Ps.length ≤ sizeLine) : PE prog w W A env s₀ (.List es pos) (LsF s₀.heap Ps) := by
  intro s k hw E Q hQ
  refine wpAny_List_spliced (h s k hw _ E _ fun vs s1 k1 hvs => ⟨by rw [hvs.length]; exact hn, ?_⟩)
  have hf : s1.heap.get? s1.heap.objs.size = none := get_size_none _ (Nat.le_refl _)
  refine hQ _ _ (kps_trans k1 kps_push) ⟨_, _, _, rfl, none_of ((kps_kp k).trans (kps_kp k1)) hf, vw_to (Heap.get?_push_size _ rfl) (hw.mono (kps_kp k1)).not_mem, ?_⟩
  refine (VAll.mono (h := Vw W s1.heap) (fun b o e => vw_to (vw_mono (kps_kp kps_push) b o e) fun q => ?_) (by simpa using hvs))
  rw [List.mem_singleton.mp q] at e
  have := (vw_of e).1
  rw [hf] at this; cases this

/-- a list hidden is gone through -/
theorem src_mu {Ps : List VP} {a : Addr} (hA : A.handled = none) (x : Mu W a Ps s.heap) : Srcs prog w W A (.ref a) s Ps := by
  obtain ⟨vs, ⟨n, g⟩, r⟩ := x
  exact src_core hA g r (fun m => nomatch m) fun _ m => nomatch m
theorem callee_mu {Ps : List VP} {a : Addr} (x : Mu W a Ps s.heap) : Callee "list" (.ref a) s := by
  obtain ⟨vs, ⟨n, g⟩, r⟩ := x
  exact ⟨⟨_, g, rfl⟩, fun a' e => by cases e; exact ⟨_, g, rfl⟩⟩

/-- o.name(e) as a statement, o a hidden list: what the call does is said of the state at the call -/
theorem st_meth1 {name : Str} {apos cpos : Pos} {o : Expr} {a : Addr} {id : String} {Ps : List VP} {Q : Flow → Shared → Prop} {E : Value → Shared → Prop} (F : Fm env s₀ W m cm s) (ho : PE prog w W A env s o (Is (.ref a))) (hM : Mu W a Ps s.heap) (he : PE prog w W A env s e P)
    (slot : Slot "list" name id) (ty : typeOf (.builtin id) = pure (.type "method_descriptor"))
    (h : ∀ v s', Fm env s₀ W m cm s' → Keeps s s' → P.p v (Vw W s'.heap) → wpAny (model prog w) A (call (.builtin id) [.ref a, v]) (fun _ s'' => wpAny (model prog w) A (execs rest env) Q E s'') E s')
    (hbase : attributeBase o name env (eval o env) = eval o env := by rfl)
    (hfew : ((backTo cpos (starEach [e] env)).all (fun x => !x.1) && (backToKw cpos (keywordEach [] env)).all (fun x => x.1.isSome)
      && decide ([e].length + ([] : List Keyword).length + (if ([] : List Keyword).isEmpty then 0 else 1) < 30)) = true := by rfl)
    (hline : (apos.endLine == cpos.line) = true := by rfl)
    (hb : backTo cpos (starEach [e] env) = [(false, eval e env)] := by rfl)
    (hi : interactive env = false := by rfl) (hs : swapsWith (.Call (.Attribute o name apos) [e] [] cpos) none pos.line env = pure false := by rfl) :
    wpAny (model prog w) A (execs (.Expr (.Call (.Attribute o name apos) [e] [] cpos) pos :: rest) env) Q E s := by
  refine wpAny_execs_cons (wpAny_Expr_any ?_ hi hs)
  refine wpAny_Call_method_late hbase hfew hline rfl (ho s (kps_refl s) F.ok E _ fun v s1 k1 hv => ?_)
  have hv : v = .ref a := hv
  subst hv
  obtain ⟨t1, t2⟩ := callee_mu (s := s1) (hM.mono (kps_kp k1))
  refine ⟨"list", id, PySem.F.plainAttrs_list, slot, ty, t1, t2, ?_⟩
  refine callWith_builtin (by rw [hb]; rfl) ?_
  rw [hb]
  refine evalArgs_plain (spliced_cons ?_)
  refine he s1 k1 (F.ok.mono (kps_kp k1)) E _ fun v s2 k2 hv => ?_
  exact wpAny_items_nil (env := env) (pos := cpos) (h v s2 (F.keeps (kps_trans k1 k2)) (kps_trans k1 k2) hv)

theorem letgo {target : Expr} {I : Addr} {v : Value} {o : Obj} {T : String} {Q : Unit → Shared → Prop} {E : Value → Shared → Prop} (e : s.heap.get? I = some o) (c : o.cls = .type T) (n : owning.contains T = false) (h : Q () s) : wpAny (model prog w) A (letOwnedTupleGo target (.ref I) v) Q E s := by
  have key : wpAny (model prog w) A (do
      let (.ref r, .ref a) := ((.ref I, v) : Value × Value) | return
      let o ← load r
      match o.cls, o.data with
      | .type n, .fields vs =>
        if owning.contains n && vs[0]? == some (rawInt a) then
          rule "for.unpacks-the-owned-tuple"
          updateField r 0 .none
      | _, _ => pure ()) Q E s := by
    cases v with
    | ref a =>
      refine wpAny_bind (wpAny_load e ?_)
      rw [c]
      cases o.data with
      | fields vs =>
        dsimp only
        rw [n]
        exact wpAny_pure h
      | _ => exact wpAny_pure h
    | _ => exact wpAny_pure h
  cases target with
  | Tuple => exact key
  | List => exact key
  | _ => exact wpAny_pure h
theorem Fm.live (F : Fm env s₀ W m cm s) {b : Addr} (h : b ∈ Mine.own env) : ∃ o, s.heap.get? b = some o := by
  rcases List.mem_cons.mp h with rfl | hb
  · obtain ⟨o, _, _, e, _⟩ := F.ns
    exact ⟨o, e⟩
  · obtain ⟨n, _, hn⟩ := List.mem_filterMap.mp hb
    obtain ⟨o, e, _⟩ := F.cell n b hn
    exact ⟨o, e⟩
/-- a for loop; X is what its body changes -/
theorem st_for {target : Expr} {iter : Expr} {body : List Stmt} {Pit : VP} {Pf : α → VP} {Q : Flow → Shared → Prop} {E : Value → Shared → Prop} (F : Fm env s₀ W m cm s) (xs : List α) (X : List Addr)
    (J : Nat → (Str → Option Value) → (Str → Option Value) → Heap → Prop) (hJ : ∀ i m cm h h', J i m cm h → Kp h h' → J i m cm h')
    (hJX : ∀ i m cm h, J i m cm h → ∀ b ∈ X, b ∈ own env ∨ ∃ o, h.get? b = some o)
    (hXo : ∀ b ∈ own env, b ∈ X) (hXW : ∀ b ∈ X, b ∈ W) (hX0 : ∀ b ∈ X, s₀.heap.get? b = none)
    (hiter : PE prog w W A env s iter Pit) (hsrc : ∀ v s', Keeps s s' → Pit.p v (Vw W s'.heap) → SrcX prog w W X A v s' (xs.map Pf))
    (h0 : J 0 m cm s.heap)
    (turn : ∀ (i : Nat) (y : α), xs[i]? = some y → ∀ (I : Addr) s1 m1 cm1 v, I ∉ W → s.heap.get? I = none → Fm env { s1 with heap := Vw X s1.heap } (I :: W) m1 cm1 s1 → J i m1 cm1 (s1.heap.hide I) → (Pf y).p v (Vw (I :: W) s1.heap) →
      Kp (Vw W s.heap) (Vw (I :: W) s1.heap) → Kp (Vw X s.heap) (s1.heap.hide I) → ∀ E, wpAny (model prog w) A (assign target env v) (fun _ s2 => wpAny (model prog w) A (execs body env) (fun f s3 => (f = .next ∨ f = .cont) ∧ ∃ m3 cm3, Fm env { s1 with heap := Vw X s1.heap } (I :: W) m3 cm3 s3 ∧ J (i + 1) m3 cm3 (s3.heap.hide I)) E s2) E s1)
    (hrest : ∀ m' cm' s', Fm env s₀ W m' cm' s' → J xs.length m' cm' s'.heap → KB X s s' → wpAny (model prog w) A (execs rest env) Q E s')
    (hs : ∀ x, foldedSetIterable iter env x = pure x := by intro _; rfl) :
    wpAny (model prog w) A (execs (.For target iter body [] pos :: rest) env) Q E s := by
  refine wpAny_execs_cons (wpAny_For (hiter s (kps_refl s) F.ok E _ fun xv s₁ k₁ hv => hsrc xv s₁ k₁ hv (F.ok.mono (kps_kp k₁)) E _ fun o fp St Wk hst hfp hfX hliveT => ?_) hs)
  rw [List.length_map] at Wk
  have hlive : ∀ i h, St i h → ∃ o, h.get? s₁.heap.objs.size = some o := fun i h st => let ⟨o, e, _⟩ := hliveT i h st; ⟨o, e⟩
  have F1 := F.keeps k₁
  generalize hI : s₁.heap.objs.size = I at *
  have hI1 : s₁.heap.get? I = none := get_size_none _ (by rw [hI]; exact Nat.le_refl _)
  have hI0 : s.heap.get? I = none := none_of (kps_kp k₁) hI1
  have hIW : I ∉ W := hI ▸ F1.ok.not_mem
  have hIX : I ∉ X := fun m => hIW (hXW _ m)
  have hIo : I ∉ own env := fun m => hIX (hXo _ m)
  have hI00 : s₀.heap.get? I = none := none_of F.keep hI0
  have hkP : Kp s₁.heap (s₁.heap.push o) := fun b o e => Heap.get?_push_of_some _ e
  have hide1 : ∀ h h' : Heap, (∀ b o, b ∉ [I] → h.get? b = some o → h'.get? b = some o) → Kp (h.hide I) (h'.hide I) := fun h h' k b o e => by
    have hb : b ≠ I := fun q => by rw [q, Heap.hide_self] at e; cases e
    exact (Heap.hide_ne _ hb).trans (k b o (by simpa using hb) (Heap.of_hide e))
  have hideO : ∀ h : Heap, h.get? I = none → ∀ h', Kp h h' → Kp h (h'.hide I) := fun h hn h' k b o e => (Heap.hide_ne _ (fun q => by rw [q, hn] at e; cases e)).trans (k b o e)
  have step : ∀ i m1 cm1 (s' : Shared), Fm env s₀ (I :: W) m1 cm1 s' → KB X s₁ s' → J i m1 cm1 (s'.heap.hide I) → ∀ h₁ tk₁, (∀ b o, b ∉ [I] → s'.heap.get? b = some o → h₁.get? b = some o) → (∃ o, h₁.get? I = some o) →
      Fm env s₀ (I :: W) m1 cm1 { s' with heap := h₁, toks := tk₁ } ∧ KB X s₁ { s' with heap := h₁, toks := tk₁ } ∧ J i m1 cm1 (h₁.hide I) := fun i m1 cm1 s' F' kx hj h₁ tk₁ hk₁ hl₁ => by
    have k1 : KB [I] s' { s' with heap := h₁, toks := tk₁ } := kb_mk fun b o e => hk₁ b o (vw_of e).2 (vw_of e).1
    have ok1 : WOK (I :: W) h₁ := by
      obtain ⟨oI, eI⟩ := hl₁
      refine WOK.cons (fun b hb => ?_) eI
      obtain ⟨c, o, l, e⟩ := F'.ok b (.tail _ hb)
      by_cases q : c = I
      · exact ⟨I, oI, q ▸ l, eI⟩
      · exact ⟨c, o, l, hk₁ c o (by simpa using q) e⟩
    refine ⟨F'.kb k1 ok1 fun b hb => ?_, ?_, hJ _ _ _ _ _ hj (hide1 _ _ hk₁)⟩
    · rw [List.mem_singleton.mp hb]; exact ⟨hIo, hI00⟩
    · obtain ⟨hh, tk, rfl, kk⟩ := kx
      refine ⟨h₁, tk₁, rfl, fun b o e => hk₁ b o (fun q => ?_) (kk b o e)⟩
      rw [List.mem_singleton.mp q] at e
      have := (vw_of e).1
      rw [hI1] at this; cases this
  refine codeAny_forLoop_any (R := fun r s' => match r with | .ok f => (match f with | .next => wpAny (model prog w) A (execs rest env) Q E s' | f => Q f s') | .error e => cameBackBy (model prog w) A env E e s')
    (fun k s' => ∃ i m' cm', Fm env s₀ (I :: W) m' cm' s' ∧ KB X s₁ s' ∧ St i s'.heap ∧ J i m' cm' (s'.heap.hide I) ∧ i ≤ xs.length ∧ k = xs.length + 1 - i) ?_ (xs.length + 1) ?_
  · rintro k s' ⟨i, m1, cm1, F1, kx, hst1, hj, hi, rfl⟩
    by_cases hlt : i < xs.length
    · refine Wk.item i _ _ _ hlt hst1 fun v h₁ tk₁ hPv hst₁ hk₁ => ?_
      obtain ⟨F1', kx', hj'⟩ := step i m1 cm1 s' F1 kx hj h₁ tk₁ hk₁ (hlive _ _ hst₁)
      have hy : xs[i]? = some xs[i] := List.getElem?_eq_getElem hlt
      have hnth : nth (xs.map Pf) i = Pf xs[i] := by unfold nth; simp [List.getD_eq_getElem?_getD, hlt]
      rw [hnth] at hPv
      have kvI : Kp (Vw W s₁.heap) (Vw (I :: W) h₁) := kv_hide (kb_vw hXW kx') hI1
      obtain ⟨oI, eI, TI, cI, nI⟩ := hliveT _ _ hst₁
      refine letgo eI cI nI ?_
      refine wpAny_mono (turn i xs[i] hy I { s' with heap := h₁, toks := tk₁ } m1 cm1 v hIW hI0 (F1'.rebase hXo) hj' ((Pf xs[i]).mono kvI hPv) ((vw_mono (kps_kp k₁)).trans kvI) ?_ _) (fun _ s2 h2 => ?_) fun _ _ e => e
      · refine hideO _ ?_ _ ((vw_mono (kps_kp k₁)).trans (kb_kp kx'))
        cases q : (Vw X s.heap).get? I with
        | none => rfl
        | some o => have := (vw_of q).1; rw [hI0] at this; cases this
      · refine wpAny_mono h2 (fun f s3 h3 => ?_) fun _ _ e => e
        obtain ⟨hf, m3, cm3, F3, j3⟩ := h3
        have k3 : KB X { s' with heap := h₁, toks := tk₁ } s3 := F3.done
        have F3' := F1'.back F3 hX0
        have hst3 : St (i + 1) s3.heap := Wk.frame _ _ _ hst₁ fun b hb o e => kb_kp k3 b o (vw_to e (hfX b hb))
        have fin : ∃ m, m < xs.length + 1 - i ∧ ∃ i' m' cm', Fm env s₀ (I :: W) m' cm' s3 ∧ KB X s₁ s3 ∧ St i' s3.heap ∧ J i' m' cm' (s3.heap.hide I) ∧ i' ≤ xs.length ∧ m = xs.length + 1 - i' :=
          ⟨xs.length + 1 - (i + 1), by omega, i + 1, m3, cm3, F3', kb_trans kx' k3, hst3, j3, hlt, rfl⟩
        rcases hf with rfl | rfl
        · exact fin
        · exact fin
    · have hin : i = xs.length := by omega
      subst hin
      refine Wk.done _ _ _ hst1 fun h₁ tk₁ hk₁ => wpAny_execs_nil ?_
      have k1 : KB [I] s' { s' with heap := h₁, toks := tk₁ } := kb_mk fun b o e => hk₁ b o (vw_of e).2 (vw_of e).1
      have okW : WOK W h₁ := fun b hb => by
        obtain ⟨c, o, l, e⟩ := F.ok b hb
        have hcI : c ≠ I := fun q => by rw [q, hI0] at e; cases e
        have : ∃ o, s'.heap.get? c = some o := by
          by_cases hc : c ∈ X
          · rcases hJX _ _ _ _ hj c hc with h | ⟨o, h⟩
            · exact F1.live h
            · exact ⟨o, Heap.of_hide h⟩
          · exact ⟨o, kb_kp kx c o (vw_to (kps_kp k₁ c o e) hc)⟩
        obtain ⟨o', e'⟩ := this
        exact ⟨c, o', l, hk₁ c o' (by simpa using hcI) e'⟩
      have kx' : KB X s₁ { s' with heap := h₁, toks := tk₁ } := by
        obtain ⟨hh, tk, rfl, kk⟩ := kx
        refine ⟨h₁, tk₁, rfl, fun b o e => hk₁ b o (fun q => ?_) (kk b o e)⟩
        rw [List.mem_singleton.mp q] at e
        have := (vw_of e).1
        rw [hI1] at this; cases this
      have Fz := (F1.hideLess (W' := W) (fun b hb => .tail _ hb) F.own).kb k1 okW fun b hb => by
        rw [List.mem_singleton.mp hb]; exact ⟨hIo, hI00⟩
      refine hrest m1 cm1 _ Fz (hJ _ _ _ _ _ hj fun b o e => ?_) (kb_trans (kb_of k₁) kx')
      exact hk₁ b o (fun q => by rw [List.mem_singleton.mp q, Heap.hide_self] at e; cases e) (Heap.of_hide e)
  · have ok2 : WOK (I :: W) (s₁.heap.push o) := by
      obtain ⟨oI, eI⟩ := hlive _ _ hst
      exact WOK.cons (F1.ok.mono hkP) eI
    refine ⟨0, m, cm, (F1.keeps kps_push).hideMore (fun b hb => .tail _ hb) ok2, kb_of kps_push, hst, hJ _ _ _ _ _ h0 (hideO _ hI0 _ ((kps_kp k₁).trans hkP)), Nat.zero_le _, rfl⟩
end
end Mine
set_option maxRecDepth 100000
set_option linter.unusedVariables false
namespace Mine
open PySem PySem.Spec PySem.Calls PyProof.Rows PySem.W PySem.MeetsSeq

/-- where the first like it stands, from i on; none: nowhere -/
def First (items : Array Value) (e : Value → Bool) (i : Nat) : Option Nat → Prop
  | some j => ∃ hj : j < items.size, i ≤ j ∧ e items[j] = true ∧ (∀ m (hm : m < items.size), i ≤ m → m < j → e items[m] = false) ∧ items.size ≤ sizeLine
  | none => ∀ m (hm : m < items.size), i ≤ m → e items[m] = false
theorem First.at {items : Array Value} {e : Value → Bool} {i : Nat} {o : Option Nat} (F : First items e i o) : (o = some i ∧ ∃ hi : i < items.size, e items[i] = true ∧ items.size ≤ sizeLine) ∨ (First items e (i + 1) o ∧ ∀ hi : i < items.size, e items[i] = false) := by
  cases o with
  | none => exact .inr ⟨fun m hm h => F m hm (Nat.le_of_succ_le h), fun hi => F i hi (Nat.le_refl _)⟩
  | some j =>
    obtain ⟨hj, hij, hit, hno, hz⟩ := F
    by_cases q : i = j
    · subst q
      exact .inl ⟨rfl, hj, hit, hz⟩
    · exact .inr ⟨⟨hj, by omega, hit, fun m hm h1 h2 => hno m hm (Nat.le_of_succ_le h1) h2, hz⟩, fun hi => hno i hi (Nat.le_refl _) (by omega)⟩
/-- what list.remove answers: equality is asked of the heap as it stands -/
def RmSpec (l : Addr) (items : Array Value) (n : Nat) (x : Value) (e : Value → Bool) (o : Option Nat) : Around → (Result → Shared → Prop) → Shared → Prop := fun A R s =>
  s.heap.get? l = some { cls := .type "list", dict := none, data := .seq items n, slots := #[] } ∧ (∀ y, y ∈ items → SeqAt.EqAt A.in1 s y x (e y)) ∧ match o with
    | some j => R (.ok (.ret .none)) { s with heap := s.heap.update l (Obj.mapSeq fun xs => xs.eraseIdxIfInBounds j) }
    | none => raisesNew "ValueError" A R s
theorem rm_loop (l : Addr) (items : Array Value) (n : Nat) (x : Value) (e : Value → Bool) (o : Option Nat) : ∀ (k i : Nat), items.size - i = k → First items e i o → Meets (Builtin.«list.remove.loop» ⟨[.ref l, x, rawInt i], []⟩) (RmSpec l items n x e o) := by
  intro k
  induction k with
  | zero =>
    rintro i hk F prog w A R ⟨hp, g, d, tk, os⟩ ⟨hl, he, h⟩
    have ho : o = none := by
      cases o with
      | none => rfl
      | some j => obtain ⟨hj, hij, _⟩ := F; omega
    subst ho
    wp_walk using wpAny_loadPart' hl
    rw [show items[((i : Nat) : Int).toNat]? = none by simp; omega]
    wp_walk
    exact_raiseError plainExc_ValueError h.1 h.2
  | succ k ih =>
    rintro i hk F prog w A R ⟨hp, g, d, tk, os⟩ ⟨hl, he, h⟩
    have hi : i < items.size := by omega
    wp_walk using wpAny_loadPart' hl
    rw [show items[((i : Nat) : Int).toNat]? = some items[i] by simp [hi]]
    refine wpAny_bind (he _ (Array.getElem_mem hi) prog w _ _ ?_)
    rcases F.at with ⟨rfl, _, hit, hz⟩ | ⟨F', hno⟩
    · rw [hit]
      have hz' := Nat.le_trans (size_erased items i) (Nat.le_succ_of_le hz)
      wp_walk using (wpAny_updateSeq hl rfl (hz := hz) (_hz' := hz')), wpAny_loadPart' hl
      simpa using h
    · rw [hno hi]
      wp_walk
      rw [show ((i : Int) + 1) = ((i + 1 : Nat) : Int) by push_cast; rfl]
      refine ⟨plainId_quiet plain_remove_loop _, codeAny_builtin entry_remove_loop ?_⟩
      rw [Around.under_plainId plain_remove_loop _]
      exact ih (i + 1) (by omega) F' prog w A R _ ⟨hl, he, h⟩
theorem rm_list (l : Addr) (items : Array Value) (n : Nat) (x : Value) (e : Value → Bool) (o : Option Nat) (F : First items e 0 o) : Meets (Builtin.«list.remove» ⟨[.ref l, x], []⟩) (RmSpec l items n x e o) := by
  rintro prog w A R ⟨hp, g, d, tk, os⟩ ⟨hl, he, h⟩
  wp_walk using wpAny_loadPart' hl
  refine ⟨plainId_quiet plain_remove_loop _, codeAny_builtin entry_remove_loop ?_⟩
  rw [Around.under_plainId plain_remove_loop _]
  exact rm_loop l items n x e o _ 0 rfl F prog w A R _ ⟨hl, he, h⟩
end Mine
set_option maxRecDepth 100000
set_option linter.unusedVariables false
namespace Mine
open PySem PySem.Spec PySem.Calls PyProof.Rows PySem.W PySem.MeetsSeq

theorem VAll.eraseIdx {h : Heap} : ∀ {Ps : List VP} {vs : List Value}, VAll h Ps vs → ∀ j, VAll h (Ps.eraseIdx j) (vs.eraseIdx j)
  | _, _, .nil, _ => .nil
  | _, _, .cons a b, 0 => b
  | _, _, .cons a b, j + 1 => .cons a (VAll.eraseIdx b j)
theorem VAll.split {h : Heap} : ∀ {Ps Ps' : List VP} {vs : List Value}, VAll h (Ps ++ Ps') vs → ∃ us ws, vs = us ++ ws ∧ VAll h Ps us ∧ VAll h Ps' ws
  | [], _, vs, x => ⟨[], vs, rfl, .nil, x⟩
  | _ :: _, _, _, .cons a b => by
    obtain ⟨us, ws, rfl, y, z⟩ := VAll.split b
    exact ⟨_ :: us, ws, rfl, .cons a y, z⟩

theorem erase_last {α : Type} (us : List α) (v : α) : (us ++ [v]).eraseIdx us.length = us := by
  induction us with
  | nil => rfl
  | cons a us ih => simpa using ih
theorem map_erase {α β : Type} (g : α → β) : ∀ (xs : List α) (j : Nat), (xs.eraseIdx j).map g = (xs.map g).eraseIdx j
  | [], _ => rfl
  | _ :: _, 0 => rfl
  | a :: xs, j + 1 => by simp [map_erase g xs j]
section
variable {prog : Program} {w : World} {W : List Addr} {A : Around} {env : Env} {s₀ s : Shared} {P : VP} {l : Addr} {Ps Ps' : List VP} {Q E : Value → Shared → Prop} {f : Str → PyData}

/-- the hidden list l is now of these items -/
structure Now (W : List Addr) (l : Addr) (Ps : List VP) (s s' : Shared) : Prop where
  kb : KB [l] s s'
  ok : WOK W s.heap → WOK W s'.heap
  mu : Mu W l Ps s'.heap

theorem now_upd {g : Array Value → Array Value} {vs : Array Value} {n : Nat} (hl : l ∈ W) (e : s.heap.get? l = some { cls := .type "list", data := .seq vs n }) (r : VAll (Vw W s.heap) Ps (g vs).toList) :
    Now W l Ps s { s with heap := s.heap.update l (Obj.mapSeq g) } := by
  have hs : Heap.SameBut l s.heap (s.heap.update l (Obj.mapSeq g)) := Heap.SameBut.update ..
  have e' := Heap.get?_update_self (Obj.mapSeq g) e rfl
  have kb : KB [l] s { s with heap := s.heap.update l (Obj.mapSeq g) } := ⟨_, s.toks, rfl, fun b o q => hs.extBut b o (by simpa using (vw_of q).2) (vw_of q).1⟩
  refine ⟨kb, fun ok b hb => ?_, ⟨g vs, ⟨_, e'⟩, r.mono (kb_vw (by simpa using hl) kb)⟩⟩
  obtain ⟨c, o, l', q⟩ := ok b hb
  by_cases z : c = l
  · exact ⟨l, _, z ▸ l', e'⟩
  · exact ⟨c, o, l', hs.extBut c o z q⟩

theorem call_append {v : Value} (hl : l ∈ W) (x : Mu W l Ps s.heap) (hv : P.p v (Vw W s.heap)) (hsz : Ps.length ≤ sizeLine) (h : ∀ s', Now W l (Ps ++ [P]) s s' → Q .none s') : wpAny (model prog w) A (call (.builtin "list.append") [.ref l, v]) Q E s := by
  obtain ⟨vs, ⟨n, e⟩, r⟩ := x
  have hlen : vs.size ≤ sizeLine := by have := r.length; simp at this; omega
  refine wpAny_list_append_plain ⟨n, e⟩ (fun h' hp hs => ?_) hlen
  have kb : KB [l] s { s with heap := h' } := ⟨h', s.toks, rfl, fun b o q => hs.extBut b o (by simpa using (vw_of q).2) (vw_of q).1⟩
  have mu : Mu W l (Ps ++ [P]) h' := ⟨_, hp, by
    have : (vs.push v).toList = vs.toList ++ [v] := by simp
    rw [this]
    exact VAll.mono (h' := Vw W h') (kb_vw (by simpa using hl) kb) (VAll.append r (.cons hv .nil))⟩
  refine h _ ⟨kb, fun ok b hb => ?_, mu⟩
  obtain ⟨c, o, l', q⟩ := ok b hb
  by_cases z : c = l
  · obtain ⟨n', e'⟩ := hp
    exact ⟨l, _, z ▸ l', e'⟩
  · exact ⟨c, o, l', hs.extBut c o z q⟩

theorem call_extend {v : Value} (hl : l ∈ W) (x : Mu W l Ps s.heap) (hv : (LsV Ps').p v (Vw W s.heap)) (hsz : Ps.length + Ps'.length ≤ sizeLine) (h : ∀ s', Now W l (Ps ++ Ps') s s' → Q .none s') : wpAny (model prog w) A (call (.builtin "list.extend") [.ref l, v]) Q E s := by
  obtain ⟨vs, ⟨n, e⟩, r⟩ := x
  obtain ⟨b, n', us, rfl, g, r'⟩ := hv
  have h1 := r.length
  have h2 := r'.length
  simp at h1 h2
  have hs' : vs.size + us.size ≤ sizeLine := by omega
  refine call_meets PySem.F.slot_list_extend ⟨_, e, rfl⟩ PySem.F.entry_list_extend (PySem.F.args_list_extend_2 _ _) (AutoSeq1.list_extend_list_list_0 l vs n b us n' (extend_door hs') (by omega) (by omega)) ⟨e, (vw_of g).1, ?_⟩
  exact h _ (now_upd hl e (by simpa using VAll.append r r'))

theorem call_pop (hl : l ∈ W) (x : Mu W l (Ps ++ [P]) s.heap) (hsz : Ps.length < sizeLine) (h : ∀ v s', P.p v (Vw W s.heap) → Now W l Ps s s' → Q v s') : wpAny (model prog w) A (call (.builtin "list.pop") [.ref l]) Q E s := by
  obtain ⟨vs, ⟨n, e⟩, r⟩ := x
  obtain ⟨us, ws, he, r1, r2⟩ := VAll.split r
  obtain ⟨⟩ | ⟨hp, r3⟩ := r2
  cases r3
  rename_i v
  have hvs : vs = (us ++ [v]).toArray := by rw [← he]
  subst hvs
  have h1 := r1.length
  have hsz' : (us ++ [v]).toArray.size ≤ sizeLine := by simp; omega
  refine call_meets PySem.F.slot_list_pop ⟨_, e, rfl⟩ PySem.F.entry_list_pop (PySem.F.args_list_pop_1 _) (list_pop_last l _ n v (by simp) hsz') ⟨e, ?_⟩
  refine h v _ hp (now_upd hl e ?_)
  have : ((us ++ [v]).toArray.eraseIdxIfInBounds ((us ++ [v]).toArray.size - 1)).toList = us := by
    simp [Array.eraseIdxIfInBounds, erase_last]
  rw [this]
  exact r1

/-- the items as == sees them -/
theorem eqs_of (T : Tells f) {xs : List Str} {y : Str} {us : Array Value} {v : Value} (r : VAll s.heap (xs.map fun x => D (f x)) us.toList) (hv : (D (f y)).p v s.heap) (hxs : ∀ x ∈ xs, PyData.strOk x = true) (hy : PyData.strOk y = true) (hu : A.units + 65 < cLine) :
    ∃ e : Value → Bool, (∀ u ∈ us, SeqAt.EqAt A.in1 s u v (e u)) ∧ us.size = xs.length ∧ ∀ i (hi : i < us.size) (hj : i < xs.length), e us[i] = (xs[i] == y) := by
  classical
  have hlen : us.size = xs.length := by have := r.length; simpa using this
  have at' : ∀ i (hi : i < us.size) (hj : i < xs.length), (D (f xs[i])).p us[i] s.heap := fun i hi hj => by
    have hp : (xs.map fun x => D (f x))[i]? = some (D (f xs[i])) := by
      rw [List.getElem?_map, List.getElem?_eq_getElem hj]; rfl
    obtain ⟨u', e1, e2⟩ := r.get i hp
    have : us[i]? = some u' := by rw [← Array.getElem?_toList]; exact e1
    rw [Array.getElem?_eq_getElem hi] at this
    cases this
    exact e2
  have dec : ∀ i (hi : i < us.size) (hj : i < xs.length), decide ((D (f y)).p us[i] s.heap) = (xs[i] == y) := fun i hi hj => by
    have e2 := at' i hi hj
    by_cases e : xs[i] = y
    · rw [e] at e2 ⊢; simp [e2]
    · have : ¬ (D (f y)).p us[i] s.heap := fun z => e (T.inj _ _ _ _ e2 z)
      simp [this, e]
  refine ⟨fun u => decide ((D (f y)).p u s.heap), fun u hu' => ?_, hlen, dec⟩
  obtain ⟨i, hi, rfl⟩ := Array.mem_iff_getElem.mp hu'
  have hj : i < xs.length := by omega
  show SeqAt.EqAt _ _ _ _ (decide _)
  rw [dec i hi hj, ← T.eqv]
  exact eqAt_of (A := A.in1) (s := s) (at' i hi hj) hv (T.shaped _ (hxs _ (List.getElem_mem _))) (T.shaped _ hy) (by rw [Around.in1_units]; omega)

theorem erase_at {xs : List Str} {y : Str} (hy : y ∈ xs) : ∃ j, j < xs.length ∧ xs[j]? = some y ∧ (∀ m, m < j → xs[m]? ≠ some y) ∧ xs.erase y = xs.eraseIdx j := by
  induction xs with
  | nil => cases hy
  | cons a xs ih =>
    by_cases e : a = y
    · subst e
      exact ⟨0, by simp, rfl, fun m hm => absurd hm (Nat.not_lt_zero m), by simp⟩
    · have hy' : y ∈ xs := (List.mem_cons.mp hy).resolve_left (Ne.symm e)
      obtain ⟨j, h1, h2, h3, h4⟩ := ih hy'
      refine ⟨j + 1, by simpa using h1, by simpa using h2, fun m hm => ?_, by rw [List.erase_cons_tail (by simpa using e), h4]; rfl⟩
      cases m with
      | zero => simpa using e
      | succ m => simpa using h3 m (by omega)

theorem call_remove (T : Tells f) {xs : List Str} {y : Str} {v : Value} (hl : l ∈ W) (x : Mu W l (xs.map fun x => D (f x)) s.heap) (hv : (D (f y)).p v (Vw W s.heap)) (hin : y ∈ xs) (hxs : ∀ x ∈ xs, PyData.strOk x = true) (hsz : xs.length ≤ sizeLine) (hu : A.units + 65 < cLine)
    (h : ∀ s', Now W l ((xs.erase y).map fun x => D (f x)) s s' → Q .none s') : wpAny (model prog w) A (call (.builtin "list.remove") [.ref l, v]) Q E s := by
  obtain ⟨vs, ⟨n, e⟩, r⟩ := x
  obtain ⟨ev, h1, h2, h3⟩ := eqs_of (A := A) T (r.mono (vw_kp _ _)) ((D (f y)).mono (vw_kp _ _) hv) hxs (hxs _ hin) hu
  obtain ⟨j, j1, j2, j3, j4⟩ := erase_at hin
  have hj : j < vs.size := by omega
  have hsz' : vs.size ≤ sizeLine := by omega
  refine call_meets PySem.F.slot_list_remove ⟨_, e, rfl⟩ PySem.F.entry_list_remove (PySem.F.args_list_remove_2 _ _) (rm_list l vs n v ev (some j) ⟨hj, Nat.zero_le _, ?_, fun m hm _ hmj => ?_, hsz'⟩) ⟨e, h1, ?_⟩
  · rw [h3 j hj j1]
    rw [List.getElem?_eq_getElem j1] at j2
    simpa using j2
  · rw [h3 m hm (by omega)]
    have := j3 m hmj
    rw [List.getElem?_eq_getElem (by omega)] at this
    simpa using this
  · refine h _ (now_upd hl e ?_)
    rw [j4]
    have : (vs.eraseIdxIfInBounds j).toList = vs.toList.eraseIdx j := by simp [Array.eraseIdxIfInBounds, hj]
    rw [this, map_erase]
    exact r.eraseIdx j
theorem call_missed (T : Tells f) {xs : List Str} {y : Str} {v : Value} (hA : A.handled = none) (x : Mu W l (xs.map fun x => D (f x)) s.heap) (hv : (D (f y)).p v (Vw W s.heap)) (hin : y ∉ xs) (hxs : ∀ x ∈ xs, PyData.strOk x = true) (hy : PyData.strOk y = true) (hu : A.units + 65 < cLine)
    (h : ∀ h' tk e, Heap.NewExc s.heap h' e "ValueError" → E (.ref e) { s with heap := h', toks := tk }) : wpAny (model prog w) A (call (.builtin "list.remove") [.ref l, v]) Q E s := by
  obtain ⟨vs, ⟨n, e⟩, r⟩ := x
  obtain ⟨ev, h1, h2, h3⟩ := eqs_of (A := A) T (r.mono (vw_kp _ _)) ((D (f y)).mono (vw_kp _ _) hv) hxs hy hu
  refine call_meets PySem.F.slot_list_remove ⟨_, e, rfl⟩ PySem.F.entry_list_remove (PySem.F.args_list_remove_2 _ _) (rm_list l vs n v ev none fun m hm _ => ?_) ⟨e, h1, hA, h⟩
  rw [h3 m hm (by omega)]
  have : xs[m]'(by omega) ≠ y := fun q => hin (q ▸ List.getElem_mem _)
  simpa using this
end
end Mine
set_option maxRecDepth 100000
set_option linter.unusedVariables false
namespace Mine
open PySem PySem.Spec PySem.Calls PyProof.Rows PySem.W PySem.MeetsSeq

/-- the frames there are: functions' -/
def Stk (A : Around) (l : List Env) (h : Heap) : Prop := A.frames = some l ∧ ∀ env ∈ l, env.scope.kind ≠ .module ∧ ∃ L o, env.frame = some L ∧ h.get? L = some o ∧ ∀ vs, o.data ≠ .fields vs
abbrev fsOf (l : List Env) : List Addr := l.filterMap (·.frame)
theorem Stk.fun {A : Around} {l : List Env} {h h' : Heap} (x : Stk A l h) (k : ∀ b o, h.get? b = some o → (∀ vs, o.data ≠ .fields vs) → ∃ o', h'.get? b = some o' ∧ o'.data = o.data) : h'.FunFrames (Vw (fsOf l) h) l := by
  have : ∀ l', (∀ e ∈ l', e ∈ l) → h'.FunFrames (Vw (fsOf l) h) l' := by
    intro l' hs
    induction l' with
    | nil => trivial
    | cons e r ih =>
      obtain ⟨hk, L, o, hf, ho, hd⟩ := x.2 e (hs e (.head _))
      obtain ⟨o', ho', hd'⟩ := k L o ho hd
      exact ⟨hk, ⟨L, o', hf, hideAll_none _ (List.mem_filterMap.mpr ⟨e, hs e (.head _), hf⟩), ho', fun vs => hd' ▸ hd vs⟩, ih fun e he => hs e (.tail _ he)⟩
  exact this l fun e he => he

/-- all is kept, the frames up to what is laid up in them -/
structure Up (fs : List Addr) (s s' : Shared) : Prop where
  kb : KB fs s s'
  up : ∀ b ∈ fs, ∀ o, s.heap.get? b = some o → (∀ vs, o.data ≠ .fields vs) → ∃ sl, s'.heap.get? b = some { o with slots := sl }
theorem Up.refl {fs : List Addr} {s : Shared} : Up fs s s := ⟨kb_of (kps_refl s), fun b _ o e _ => ⟨o.slots, e⟩⟩
theorem Up.of {fs : List Addr} {s s' : Shared} (k : Keeps s s') : Up fs s s' := ⟨kb_of k, fun b _ o e _ => ⟨o.slots, kps_kp k _ _ e⟩⟩
theorem Up.trans {fs : List Addr} {a b c : Shared} (x : Up fs a b) (y : Up fs b c) : Up fs a c := ⟨kb_trans x.kb y.kb, fun d hd o e hn => by
  obtain ⟨sl, e1⟩ := x.up d hd o e hn
  obtain ⟨sl', e2⟩ := y.up d hd _ e1 hn
  exact ⟨sl', e2⟩⟩
theorem Up.live {fs : List Addr} {s s' : Shared} (x : Up fs s s') (hfs : ∀ b ∈ fs, ∀ o, s.heap.get? b = some o → ∀ vs, o.data ≠ .fields vs) {b : Addr} {o : Obj} (e : s.heap.get? b = some o) : ∃ o', s'.heap.get? b = some o' := by
  by_cases m : b ∈ fs
  · obtain ⟨sl, e'⟩ := x.up b m o e (hfs b m o e)
    exact ⟨_, e'⟩
  · exact ⟨o, kb_kp x.kb b o (vw_to e m)⟩
theorem Stk.dat {A : Around} {l : List Env} {h : Heap} (x : Stk A l h) : ∀ b ∈ fsOf l, ∀ o, h.get? b = some o → ∀ vs, o.data ≠ .fields vs := fun b hb o e => by
  obtain ⟨env, he, hf⟩ := List.mem_filterMap.mp hb
  obtain ⟨_, L, o', hf', ho', hd⟩ := x.2 env he
  rw [hf] at hf'
  cases hf'
  rw [e] at ho'
  cases ho'
  exact hd

theorem boot_ValueError : bootBuiltins "ValueError" = some (.type "ValueError") := by decide +kernel
section
variable {prog : Program} {w : World} {W : List Addr} {A : Around} {env : Env} {s : Shared} {K : Frag} {mg mb : Str → Option Value} {pos np : Pos} {outer : List Env} {b₀ : Stmt} {suite : List Stmt} {rest : List ExceptHandler} {Q : Flow → Shared → Prop} {E : Value → Shared → Prop} {e : Addr} {h' : Heap} {tk : Nat}

theorem catch_value (S : Stk A (env :: outer) s.heap) (hW : Wd K mg mb (Vw (fsOf (env :: outer)) s.heap)) (hx : Heap.NewExc s.heap h' e "ValueError") (hn : nsIn K mainGlobals "ValueError" = some none)
    (k : ∀ s'', Up (fsOf (env :: outer)) s s'' → ∀ E, wpAny (model prog w) (A.mark (some (.ref e))) (execs (b₀ :: suite) env) Q E s'')
    (hfk : env.scope.kind = .function) (hg : env.globals = mainGlobals := by rfl) (hb : env.builtins = builtinsNs := by rfl) (hxk : env.kindOf "ValueError" = some .globalImplicit := by rfl) :
    wpAny (model prog w) A (noteFrame (.ref e) env) (fun _ s₂ => wpAny (model prog w) A (setFlight (.ref e) none) (fun _ s₃ =>
      wpAny (model prog w) A (handleBy (.ref e) env (.ExceptHandler (some (.Name "ValueError" np)) none (b₀ :: suite) pos :: rest)) Q E s₃) E s₂) E { s with heap := h', toks := tk } := by
  obtain ⟨ob, t, hob, hcls, hdat⟩ := hx.there
  obtain ⟨_, L, oL, hf, hoL, hdL⟩ := S.2 env (.head _)
  have hbase : (Vw (fsOf (env :: outer)) s.heap).get? e = none := by
    cases q : (Vw (fsOf (env :: outer)) s.heap).get? e with
    | none => rfl
    | some o => have := (vw_of q).1; rw [hx.new] at this; cases this
  have hFF : h'.FunFrames (Vw (fsOf (env :: outer)) s.heap) (env :: outer) := S.fun fun b o q _ => ⟨o, hx.keeps b o q, rfl⟩
  have hstay : (Vw (fsOf (env :: outer)) s.heap).StaysIn h' := fun b o q => hx.keeps b o (vw_of q).1
  unfold noteFrame
  simp only [hf]
  refine wpAny_bind (wpAny_field hob hdat (x := .none) rfl ?_)
  rw [if_neg (by decide)]
  refine wpAny_newEntry S.1 hFF hf hob hstay hbase hdat (show 1 < 6 by decide) fun h₁ hl => ?_
  obtain ⟨k1, k2, k3, k4⟩ := hl
  obtain ⟨oe, vs, T, oT, ts, he, hoc, hd, h1, hnT, hTe, hT, hdT, h3⟩ := k3
  have hW1 : Wd K mg mb h₁ := hW.mono k1
  refine wpAny_handleBy_builtin (X := "ValueError") (T := "ValueError") (b := true) PySem.F.isExc_ValueError PySem.F.notTuple_ValueError PySem.F.self_ValueError ?_
  refine Name_function_global hfk hxk (loadGlobal_builtin (by rw [hg]; exact hW1.g) (mg_none_of hW1.inK hW1.g hn) (by rw [hb]; exact hW1.b) ((hW1.bb _ (by decide)).trans boot_ValueError) ?_)
  refine ⟨rfl, ⟨oe, he, by rw [hoc, hcls]⟩, ?_⟩
  simp only [if_true]
  refine wpAny_setFlight_none he hd h1 hT hdT (Array.getElem?_eq_some_iff.mp h3).1 (k _ ?_ _)
  have other : ∀ b, b ≠ T → (h₁.update T (Obj.mapFields (·.setIfInBounds 3 Value.none))).get? b = h₁.get? b := fun b hb => Heap.get?_update_other _ _ (Ne.symm hb)
  refine ⟨⟨_, tk, rfl, fun b o q => (other b fun z => by rw [z, hnT] at q; cases q).trans (k1 b o q)⟩, fun b hb o q hn => ?_⟩
  obtain ⟨sl, q'⟩ := k4 b o (hx.keeps b o q) hn
  exact ⟨sl, (other b fun z => by rw [z, hT] at q'; cases q'; exact hn _ hdT).trans q'⟩
end
end Mine
set_option maxRecDepth 100000
set_option linter.unusedVariables false
namespace Mine
open PySem PySem.Spec PySem.Calls PyProof.Rows PySem.W PySem.MeetsSeq

section
variable {prog : Program} {w : World} {W : List Addr} {A : Around} {env : Env} {s₀ s : Shared} {K : Frag} {mg mb : Str → Option Value} {P P1 P2 : VP} {pos p px : Pos} {m cm : Str → Option Value} {x : Str} {e : Expr} {rest : List Stmt} {α : Type}

/-- a name of the frame's own is bound -/
theorem store_local {v : Value} {Q : Unit → Shared → Prop} {E : Value → Shared → Prop} (F : Fm env s₀ W m cm s) (h : ∀ s', Fm env s₀ W (fun y => if y = x then some v else m y) cm s' → KB [env.locals] s s' → Q () s') (hl : env.kindOf x = some .local := by rfl) :
    wpAny (model prog w) A (storeName env x v) Q E s := by
  have hp : (env.scope.kind == .class || (env.scope.kind == .module && env.locals != env.globals)) = false := by rw [F.fn]; rfl
  refine wpAny_storeName_local hl F.ns (fun h' hn' hs' => ?_) hp
  have keep : ∀ b o, b ≠ env.locals → s.heap.get? b = some o → h'.get? b = some o := fun b o hb e => hs'.extBut b o hb e
  refine h _ ⟨?_, hn', fun b o e => ?_, F.off, fun n c hc => ?_, F.apart, F.above, ?_, F.own, F.fn⟩ ⟨h', _, rfl, fun b o e => keep b o (by simpa using (vw_of e).2) (vw_of e).1⟩
  · obtain ⟨h₁, tk, e⟩ := F.same
    exact ⟨h', s.toks + 1, by rw [e]⟩
  · exact keep b o (F.ne (mem_own_loc _) e) (F.keep b o e)
  · exact (F.cell n c hc).sameBut hs' (Nat.ne_of_gt (F.above n c (mem_of_lookup hc)))
  · intro b hb
    obtain ⟨c, o, l, e⟩ := F.ok b hb
    by_cases q : c = env.locals
    · obtain ⟨o', _, _, e', _⟩ := hn'
      exact ⟨c, o', l, by rw [q]; exact e'⟩
    · exact ⟨c, o, l, keep c o q e⟩
theorem store_cell {v : Value} {c : Addr} {Q : Unit → Shared → Prop} {E : Value → Shared → Prop} (F : Fm env s₀ W m cm s) (hc : env.cells.lookup x = some c) (h : ∀ s', Fm env s₀ W m (fun y => if y = x then some v else cm y) s' → KB [c] s s' → Q () s') (hl : env.kindOf x = some .cell := by rfl) :
    wpAny (model prog w) A (storeName env x v) Q E s := by
  have hLc := F.above x c (mem_of_lookup hc)
  refine wpAny_storeName_cell F.fn hl hc (F.cell x c hc) (fun h' hc' hs' => ?_)
  have keep : ∀ b o, b ≠ c → s.heap.get? b = some o → h'.get? b = some o := fun b o hb e => hs'.extBut b o hb e
  refine h _ ⟨?_, F.ns.sameBut hs' (Nat.ne_of_lt hLc), fun b o e => ?_, F.off, fun n c' hn => ?_, F.apart, F.above, ?_, F.own, F.fn⟩ ⟨h', s.toks, rfl, fun b o e => keep b o (by simpa using (vw_of e).2) (vw_of e).1⟩
  · obtain ⟨h₁, tk, e⟩ := F.same
    exact ⟨h', s.toks, by rw [e]⟩
  · exact keep b o (F.ne (mem_own_cell hc) e) (F.keep b o e)
  · by_cases hn' : n = x
    · subst hn'
      rw [hc] at hn; cases hn
      simpa using hc'
    · rw [if_neg hn']
      exact (F.cell n c' hn).sameBut hs' fun q => hn' (name_of_addr F.apart (mem_of_lookup hn) (q ▸ mem_of_lookup hc))
  · intro b hb
    obtain ⟨c', o, l, e⟩ := F.ok b hb
    by_cases q : c' = c
    · obtain ⟨o', e', _⟩ := hc'
      exact ⟨c', o', l, by rw [q]; exact e'⟩
    · exact ⟨c', o, l, keep c' o q e⟩
/-- x = e, whatever e does -/
theorem st_assign {Q : Flow → Shared → Prop} {E : Value → Shared → Prop} (h : wpAny (model prog w) A (eval e env) (fun v s1 => wpAny (model prog w) A (storeName env x v) (fun _ s2 => wpAny (model prog w) A (execs rest env) Q E s2) E s1) E s)
    (hs : swapsWith e (some (.Name x px)) pos.line env = pure false := by rfl) :
    wpAny (model prog w) A (execs (.Assign [.Name x px] e pos :: rest) env) Q E s :=
  wpAny_execs_cons (wpAny_Assign_Name h hs)

theorem wp_meth {o : Expr} {name : Str} {apos : Pos} {args : List Expr} {T id : String} {Ps : List VP} {Q : Value → Shared → Prop} {E : Value → Shared → Prop} (hw : WOK W s.heap) (ho : PE prog w W A env s o P1) (ha : PEs prog w W A env s args Ps)
    (plain : PlainAttrs T) (slot : Slot T name id) (ty : typeOf (.builtin id) = pure (.type "method_descriptor"))
    (hT : ∀ v s', Keeps s s' → P1.p v (Vw W s'.heap) → Callee T v s') (hc : ∀ v vs s', Keeps s s' → P1.p v (Vw W s'.heap) → VAll (Vw W s'.heap) Ps vs → wpAny (model prog w) A (call (.builtin id) (v :: vs)) Q E s')
    (hbase : attributeBase o name env (eval o env) = eval o env := by rfl)
    (hfew : ((backTo pos (starEach args env)).all (fun x => !x.1) && (backToKw pos (keywordEach [] env)).all (fun x => x.1.isSome)
      && decide (args.length + ([] : List Keyword).length + (if ([] : List Keyword).isEmpty then 0 else 1) < 30)) = true := by rfl)
    (hline : (apos.endLine == pos.line) = true := by rfl)
    (hstar : (backTo pos (starEach args env)).any (·.1) = false := by rfl) :
    wpAny (model prog w) A (eval (.Call (.Attribute o name apos) args [] pos) env) Q E s := by
  refine wpAny_Call_method_late hbase hfew hline rfl (ho s (kps_refl s) hw E _ fun v s1 k1 hv => ?_)
  obtain ⟨t1, t2⟩ := hT v s1 k1 hv
  refine ⟨T, id, plain, slot, ty, t1, t2, ?_⟩
  refine callWith_builtin hstar ?_
  have hall := ha s1 k1 (hw.mono (kps_kp k1)) pos E (fun vs s2 => wpAny (model prog w) A (call (.builtin id) ([v] ++ vs) []) Q E s2) fun vs s2 k2 hvs => hc v vs s2 (kps_trans k1 k2) (P1.mono (vw_mono (kps_kp k2)) hv) hvs
  generalize hb : backTo pos (starEach args env) = trees at *
  cases trees with
  | nil => exact PyProof.Rows.evalArgs_none (fun Γ p hΓ => (hall Γ p hΓ) Γ p hΓ)
  | cons t ts =>
    obtain ⟨st, x⟩ := t
    have : st = false := by simpa using (List.any_eq_false.mp hstar (st, x) (.head _))
    subst this
    exact evalArgs_plain hall

/-- a list is true where it has an item -/
theorem true_mu {Ps : List VP} {a : Addr} {Q : Bool → Shared → Prop} {E : Value → Shared → Prop} (x : Mu W a Ps s.heap) (hsz : Ps.length ≤ sizeLine) (h : ∀ s', Keeps s s' → Q (!Ps.isEmpty) s') : wpAny (model prog w) A (truthy (.ref a)) Q E s := by
  obtain ⟨vs, ⟨n, g⟩, r⟩ := x
  have hl := r.length
  simp at hl
  refine wpAny_truthy_list ⟨_, g, rfl, n, rfl⟩ (by rw [sizeLine_eq] at hsz; omega) ?_
  have : (!vs.isEmpty) = (!Ps.isEmpty) := by
    have : vs.isEmpty = Ps.isEmpty := by
      rw [Bool.eq_iff_iff, Array.isEmpty_iff_size_eq_zero, List.isEmpty_iff_length_eq_zero, hl]
    rw [this]
  rw [this]
  exact h _ kps_tok

theorem Up.ns {fs : List Addr} {s' : Shared} {L : Addr} {m : Str → Option Value} (x : Up fs s s') (h : s.heap.Ns L m) : s'.heap.Ns L m := by
  have : s.heap.UpToSlots (s'.heap) ∨ True := .inr trivial
  obtain ⟨o, es, n, e, hd, hr⟩ := h
  by_cases q : L ∈ fs
  · obtain ⟨sl, e'⟩ := x.up L q o e (fun vs z => by rw [hd] at z; cases z)
    exact ⟨{ o with slots := sl }, es, n, e', hd, hr⟩
  · exact ⟨o, es, n, kb_kp x.kb _ _ (vw_to e q), hd, hr⟩
theorem Fm.up (F : Fm env s₀ W m cm s) {fs : List Addr} {s' : Shared} (k : Up fs s s') (hd : ∀ b ∈ fs, ∀ o, s.heap.get? b = some o → ∀ vs, o.data ≠ .fields vs) (h0 : ∀ b ∈ fs, s₀.heap.get? b = none) (hc : ∀ n c, env.cells.lookup n = some c → c ∉ fs) : Fm env s₀ W m cm s' := by
  obtain ⟨h, tk, e, kk⟩ := k.kb
  obtain ⟨h₁, tk₁, e₁⟩ := F.same
  refine ⟨⟨h, tk, by rw [e, e₁]⟩, k.ns F.ns, fun b o q => kb_kp k.kb _ _ (vw_to (F.keep b o q) fun z => by rw [h0 _ z] at q; cases q), F.off, fun n c hn => ?_, F.apart, F.above, fun b hb => ?_, F.own, F.fn⟩
  · obtain ⟨o, ho, hd⟩ := F.cell n c hn
    exact ⟨o, kb_kp k.kb _ _ (vw_to ho (hc n c hn)), hd⟩
  · obtain ⟨c, o, l, q⟩ := F.ok b hb
    obtain ⟨o', q'⟩ := k.live hd q
    exact ⟨c, o', l, q'⟩
theorem st_while {test : Expr} {body : List Stmt} {Q : Flow → Shared → Prop} {E : Value → Shared → Prop} (I : Nat → Shared → Prop) (n : Nat) (h0 : I n s)
    (turn : ∀ n s', I n s' → ∀ E', wpAny (model prog w) A (isTrue test env (eval test env)) (fun b s2 => if b then wpAny (model prog w) A (execs body env) (fun f s3 => (f = .next ∨ f = .cont) ∧ ∃ m, m < n ∧ I m s3) E' s2
      else wpAny (model prog w) A (execs rest env) Q E s2) E' s') :
    wpAny (model prog w) A (execs (.While test body [] pos :: rest) env) Q E s := by
  refine wpAny_execs_cons (wpAny_While (codeAny_whileLoop (R := fun r s' => match r with | .ok f => (match f with | .next => wpAny (model prog w) A (execs rest env) Q E s' | f => Q f s') | .error e => cameBackBy (model prog w) A env E e s') I ?_ n h0))
  intro n s' hI
  refine wpAny_mono (turn n s' hI _) (fun b s2 h2 => ?_) fun _ _ e => e
  cases b with
  | true =>
    simp only [if_true] at h2 ⊢
    refine wpAny_mono h2 (fun f s3 h3 => ?_) fun _ _ e => e
    obtain ⟨hf, h3⟩ := h3
    rcases hf with rfl | rfl <;> exact h3
  | false =>
    simp only [Bool.false_eq_true, if_false] at h2 ⊢
    exact wpAny_execs_nil h2
theorem Mu.go {W' : List Addr} {a : Addr} {Ps : List VP} {h h' : Heap} (x : Mu W a Ps h) (k : ∀ o, h.get? a = some o → h'.get? a = some o) (kv : Kp (Vw W h) (Vw W' h')) : Mu W' a Ps h' := by
  obtain ⟨vs, ⟨n, g⟩, r⟩ := x
  exact ⟨vs, ⟨n, k _ g⟩, r.mono kv⟩
/-- x = e, a name of the frame's own; what is kept is told -/
theorem st_localK {Q : Flow → Shared → Prop} {E : Value → Shared → Prop} (F : Fm env s₀ W m cm s) (he : PE prog w W A env s e P)
    (h : ∀ v s', Fm env s₀ W (fun y => if y = x then some v else m y) cm s' → KB [env.locals] s s' → P.p v (Vw W s'.heap) → wpAny (model prog w) A (execs rest env) Q E s')
    (hl : env.kindOf x = some .local := by rfl) (hs : swapsWith e (some (.Name x px)) pos.line env = pure false := by rfl) :
    wpAny (model prog w) A (execs (.Assign [.Name x px] e pos :: rest) env) Q E s := by
  refine st_assign (he s (kps_refl s) F.ok E _ fun v s1 k1 hv => ?_) hs
  refine store_local (F.keeps k1) (fun s2 F2 k2 => ?_) hl
  exact h v s2 F2 (kb_trans (kb_of k1) k2) (P.mono (kb_vw (by intro b hb; rw [List.mem_singleton.mp hb]; exact F.loc) k2) hv)
theorem st_cellK {c : Addr} {Q : Flow → Shared → Prop} {E : Value → Shared → Prop} (F : Fm env s₀ W m cm s) (he : PE prog w W A env s e P) (hc : env.cells.lookup x = some c)
    (h : ∀ v s', Fm env s₀ W m (fun y => if y = x then some v else cm y) s' → KB [c] s s' → P.p v (Vw W s'.heap) → wpAny (model prog w) A (execs rest env) Q E s')
    (hl : env.kindOf x = some .cell := by rfl) (hs : swapsWith e (some (.Name x px)) pos.line env = pure false := by rfl) :
    wpAny (model prog w) A (execs (.Assign [.Name x px] e pos :: rest) env) Q E s := by
  refine st_assign (he s (kps_refl s) F.ok E _ fun v s1 k1 hv => ?_) hs
  refine store_cell (F.keeps k1) hc (fun s2 F2 k2 => ?_) hl
  exact h v s2 F2 (kb_trans (kb_of k1) k2) (P.mono (kb_vw (by intro b hb; rw [List.mem_singleton.mp hb]; exact F.cel hc) k2) hv)
theorem kb_get {M : List Addr} {s s' : Shared} (k : KB M s s') {a : Addr} (ha : a ∉ M) : ∀ o, s.heap.get? a = some o → s'.heap.get? a = some o := fun o q => kb_kp k _ _ (vw_to q ha)
theorem Mu.kb' {M : List Addr} {s' : Shared} {a : Addr} {Ps : List VP} (x : Mu W a Ps s.heap) (k : KB M s s') (ha : a ∉ M) (hM : ∀ b ∈ M, b ∈ W) : Mu W a Ps s'.heap := x.go (kb_get k ha) (kb_vw hM k)
end
end Mine
set_option maxRecDepth 100000
set_option maxHeartbeats 4000000
set_option linter.unusedVariables false
namespace Mine
open PySem PySem.Spec PySem.Calls PyProof.Rows PySem.W PySem.MeetsSeq
def uldGo : List Str → List Str → List Str → List Str × List Str
  | [], ms, ys => (ms, ys)
  | x :: r, ms, ys => if ys.contains x then uldGo r ms (ys.erase x) else uldGo r (ms ++ [x]) ys
theorem uldGo_more : ∀ (r ms ys : List Str), ms ≠ [] → (uldGo r ms ys).1 ≠ []
  | [], ms, ys, h => h
  | x :: r, ms, ys, h => by
    unfold uldGo
    split
    · exact uldGo_more r ms _ h
    · exact uldGo_more r _ ys (by simp)
def FU (fs : List Addr) (h h' : Heap) : Prop := ∀ b ∈ fs, ∀ o, h.get? b = some o → ∃ sl, h'.get? b = some { o with slots := sl }

section
variable {prog : Program} {w : World} {W : List Addr} {A : Around} {env : Env} {s₀ s : Shared} {mg mb : Str → Option Value} {v v' : Value} {f : Str → PyData}

theorem hide1 {h : Heap} {a : Addr} {l : List Addr} (ha : a ∉ l) (h0 : h.get? a = none) : ∀ b ∈ [a], b ∉ l ∧ h.get? b = none := fun b hb => by
  rw [List.mem_singleton.mp hb]; exact ⟨ha, h0⟩
theorem stk_cons {A' : Around} {outer : List Env} {s₁ : Shared} {m cm : Str → Option Value} (hA' : A' = A.deeper env) (S : Stk A outer s.heap) (F : Fm env s₀ W m cm s₁) (hf : env.frame = some env.locals) (fu : FU (fsOf outer) s.heap s₁.heap) : Stk A' (env :: outer) s₁.heap := by
  refine ⟨by rw [hA']; exact Around.frames_deeper S.1, fun en hen => ?_⟩
  rcases List.mem_cons.mp hen with rfl | hen
  · obtain ⟨o, es, n, q, hd, _⟩ := F.ns
    exact ⟨by rw [F.fn]; decide, en.locals, o, hf, q, fun vs z => by rw [hd] at z; cases z⟩
  · obtain ⟨hk, L', o, hf, q, hd⟩ := S.2 en hen
    obtain ⟨sl, q'⟩ := fu L' (List.mem_filterMap.mpr ⟨en, hen, hf⟩) o q
    exact ⟨hk, L', _, hf, q', hd⟩

theorem uld_ok (T : Tells f) {xs ys : List Str} {e a : Addr} {fs : List Addr} (R : Room A 1) (hW : Wd (KK w) mg mb (Vw W s.heap)) (hfs : ∀ b ∈ fs, b ∈ W) (he : e ∈ W) (ha : a ∈ W) (hea : e ≠ a) (hef : e ∉ fs) (haf : a ∉ fs)
    (h1 : Mu W e (xs.map fun x => D (f x)) s.heap) (h2 : Mu W a (ys.map fun x => D (f x)) s.heap) (hs1 : xs.length < sizeLine) (hs2 : ys.length ≤ sizeLine) (hx : ∀ x ∈ xs, PyData.strOk x = true) (hy : ∀ x ∈ ys, PyData.strOk x = true)
    (hS : (uldGo xs.reverse [] ys).1 ≠ [] → ∃ outer, fs = fsOf outer ∧ Stk A outer s.heap) :
    EvM prog w (e :: a :: fs) W A (call (.ref 45) [.ref e, .ref a]) (fun v h' => (TpV [LsF s.heap ((uldGo xs.reverse [] ys).1.map fun x => D (f x)), Is (.ref a)]).p v (Vw W h') ∧ Mu W e [] h' ∧ Mu W a ((uldGo xs.reverse [] ys).2.map fun x => D (f x)) h' ∧ FU fs s.heap h') s := by
  refine ev_callM (K := KK w) R (hW.mono (vw_kp _ _)) rfl rfl rfl rfl rfl rfl rfl rfl rfl rfl ?_
  intro L env A' W' s₁ hen hA' R' hL hW' F kv kk hoff
  have hal : ∀ b, (∃ o, s.heap.get? b = some o) → b ∉ own env := fun b ⟨o, q⟩ hb => by rw [hoff b hb] at q; cases q
  have hLl : ∀ b, b ∉ own env → b ∉ [env.locals] := fun b hb q => hb (by rw [List.mem_singleton.mp q]; exact .head _)
  subst hen
  have hWs : ∀ b ∈ W, b ∈ W' := fun b hb => hW' ▸ List.mem_append_right _ hb
  have hW1 := hW.mono kv
  obtain ⟨us1, ⟨n1, g1⟩, r1⟩ := id h1
  obtain ⟨us2, ⟨n2, g2⟩, r2⟩ := id h2
  have hne := hal e ⟨_, g1⟩
  have hna := hal a ⟨_, g2⟩
  refine st_localK F (P := LsF s₁.heap []) (pe_listF pes_nil (by decide)) fun vm s2 F2 k2 hvm => ?_
  obtain ⟨miss, rfl, hm0, hmW, hm⟩ := LsF.mu hvm
  have F3 := F2.hide hm
  have kv2 : Kp (Vw W' s₁.heap) (Vw (miss :: W') s2.heap) := kv_hide (kb_vw (by intro b hb; rw [List.mem_singleton.mp hb]; exact F.loc) k2) hm0
  have M1 : Mu (miss :: W') e (xs.map fun x => D (f x)) s2.heap := h1.go (fun o q => kb_get k2 (hLl e hne) o (kk _ _ q)) (kv.trans kv2)
  have M2 : Mu (miss :: W') a (ys.map fun x => D (f x)) s2.heap := h2.go (fun o q => kb_get k2 (hLl a hna) o (kk _ _ q)) (kv.trans kv2)
  have hms : s.heap.get? miss = none := none_of kk hm0
  have hme : miss ≠ e := fun q => by rw [q] at hms; rw [hms] at g1; cases g1
  have hma : miss ≠ a := fun q => by rw [q] at hms; rw [hms] at g2; cases g2
  have hmL : miss ∉ [L] := fun q => by have := hmW; rw [List.mem_singleton.mp q] at this; exact this F.loc
  have FU0 : FU fs s.heap s2.heap := fun b hb o q => ⟨o.slots, kb_get k2 (hLl b (hal b ⟨o, q⟩)) o (kk _ _ q)⟩
  refine st_while
    (fun n s' => ∃ r ms cur m', n = r.length ∧ Fm _ _ (miss :: W') m' _ s' ∧ m' "expected" = some (.ref e) ∧ m' "actual" = some (.ref a) ∧ m' "missing" = some (.ref miss) ∧
      Mu (miss :: W') e (r.reverse.map fun x => D (f x)) s'.heap ∧ Mu (miss :: W') a (cur.map fun x => D (f x)) s'.heap ∧ Mu (miss :: W') miss (ms.map fun x => D (f x)) s'.heap ∧ uldGo r ms cur = uldGo xs.reverse [] ys ∧ FU fs s.heap s'.heap ∧
      (∀ x ∈ r, PyData.strOk x = true) ∧ (∀ x ∈ cur, PyData.strOk x = true) ∧ ms.length + r.length ≤ xs.length ∧ cur.length ≤ sizeLine ∧ Kp (Vw W s.heap) (Vw (miss :: W') s'.heap)) xs.reverse.length
      ⟨xs.reverse, [], ys, _, rfl, F3, rfl, rfl, rfl, by simpa using M1, M2, hm, rfl, FU0, by simpa using hx, hy, by simp, hs2, kv.trans kv2⟩ ?_
  rintro n s3 ⟨r, ms, cur, m', rfl, F4, q1, q2, q3, N1, N2, N3, hgo, hfu, hr, hc, hl1, hl2, kv3⟩ E'
  refine isTrue_plain ((pe_name (ld_local F4 q1 (P := Is (.ref e)) rfl)) s3 (kps_refl s3) F4.ok _ _ fun v s4 k4 hv => ?_)
  have hv : v = .ref e := hv
  subst hv
  have F5 := F4.keeps k4
  have O1 := N1.mono (kps_kp k4)
  have O2 := N2.mono (kps_kp k4)
  have O3 := N3.mono (kps_kp k4)
  refine true_mu O1 (by rw [List.length_map, List.length_reverse]; omega) fun s5 k5 => ?_
  have F6 := F5.keeps k5
  have U1 := O1.mono (kps_kp k5)
  have U2 := O2.mono (kps_kp k5)
  have U3 := O3.mono (kps_kp k5)
  have hfu5 : FU fs s.heap s5.heap := fun b hb o q => let ⟨sl, q'⟩ := hfu b hb o q; ⟨sl, kps_kp (kps_trans k4 k5) _ _ q'⟩
  have kv5 : Kp (Vw W s.heap) (Vw (miss :: W') s5.heap) := kv3.trans (vw_mono (kps_kp (kps_trans k4 k5)))
  cases r with
  | nil =>
    have : (!(List.map (fun x => D (f x)) ([] : List Str).reverse).isEmpty) = false := rfl
    rw [this]
    simp only [Bool.false_eq_true, if_false]
    simp only [uldGo] at hgo
    have F7 := F6.hideLess (W' := W') (fun b hb => .tail _ hb) fun b hb => hW' ▸ List.mem_append_left _ hb
    refine st_return F7 (P := TpV [LsF s.heap (ms.map fun x => D (f x)), Is (.ref a)]) (pe_tuple (pes_cons (pe_name (ld_local F7 q3 ?_)) (pes_cons (pe_name (ld_local F7 q2 rfl)) pes_nil)) (by show 2 ≤ sizeLine; decide)) fun v s8 F8 k8 hp => ?_
    · exact U3.fresh (fun b hb => hb) hmW hms
    · refine ⟨F8.done, fun b hb => F8.ok b (hWs b hb), ?_, ?_, ?_, ?_⟩
      · rw [← hgo]
        exact VP.mono _ (vw_sub hWs) hp
      · exact (U1.mono (kps_kp k8)).sub fun b hb => .tail _ (hWs b hb)
      · rw [← hgo]
        exact (U2.mono (kps_kp k8)).sub fun b hb => .tail _ (hWs b hb)
      · exact fun b hb o q => let ⟨sl, q'⟩ := hfu5 b hb o q; ⟨sl, kps_kp k8 _ _ q'⟩
  | cons x r =>
    have : (!(List.map (fun x => D (f x)) (x :: r).reverse).isEmpty) = true := by simp
    rw [this]
    simp only [if_true]
    refine st_assign (wp_meth (Ps := []) (P1 := Is (.ref e)) F6.ok (pe_name (ld_local F6 q1 rfl)) pes_nil PySem.F.plainAttrs_list PySem.F.slot_list_pop PySem.F.type_list_pop (fun v s' k hv => by rw [show v = .ref e from hv]; exact callee_mu (U1.mono (kps_kp k))) fun v vs s6 k6 hv hvs => ?_)
    cases hvs
    rw [show v = .ref e from hv]
    have hMe := hide1 hne (hideAll_none (h := s.heap) (e :: a :: fs) (.head _))
    have hMa := hide1 hna (hideAll_none (h := s.heap) (e :: a :: fs) (.tail _ (.head _)))
    have hwe : ∀ b ∈ [e], b ∈ miss :: W' := fun b hb => by rw [List.mem_singleton.mp hb]; exact .tail _ (hWs _ he)
    have hwa : ∀ b ∈ [a], b ∈ miss :: W' := fun b hb => by rw [List.mem_singleton.mp hb]; exact .tail _ (hWs _ ha)
    have hwm : ∀ b ∈ [miss], b ∈ miss :: W' := fun b hb => by rw [List.mem_singleton.mp hb]; exact .head _
    have hwL : ∀ b ∈ [L], b ∈ miss :: W' := fun b hb => by rw [List.mem_singleton.mp hb]; exact .tail _ F.loc
    have V1 : Mu (miss :: W') e ((r.reverse.map fun x => D (f x)) ++ [D (f x)]) s6.heap := by simpa using U1.mono (kps_kp k6)
    refine call_pop (hwe _ (.head _)) V1 (by simp at hl1 ⊢; omega) fun v s7 hv now => ?_
    have F7 := (F6.keeps k6).kb now.kb (now.ok (F6.keeps k6).ok) hMe
    refine store_local F7 (fun s8 F8 k8 => ?_) rfl
    have hkeep : ∀ b, b ≠ e → b ∉ [L] → ∀ o, s5.heap.get? b = some o → s8.heap.get? b = some o := fun b hb hb' o q =>
      kb_get k8 hb' o (kb_get now.kb (by simpa using hb) o (kps_kp k6 _ _ q))
    have kv58 : Kp (Vw (miss :: W') s5.heap) (Vw (miss :: W') s8.heap) := (vw_mono (kps_kp k6)).trans ((kb_vw hwe now.kb).trans (kb_vw hwL k8))
    have X1 : Mu (miss :: W') e (r.reverse.map fun x => D (f x)) s8.heap := now.mu.kb' k8 (hLl e hne) hwL
    have X2 : Mu (miss :: W') a (cur.map fun x => D (f x)) s8.heap := U2.go (hkeep a (Ne.symm hea) (hLl a hna)) kv58
    have X3 : Mu (miss :: W') miss (ms.map fun x => D (f x)) s8.heap := U3.go (hkeep miss hme hmL) kv58
    have hv8 : (D (f x)).p v (Vw (miss :: W') s8.heap) := VP.mono _ (kb_vw hwe now.kb |>.trans (kb_vw hwL k8)) hv
    have FU8 : FU fs s.heap s8.heap := fun b hb o q => by
      obtain ⟨sl, q'⟩ := hfu5 b hb o q
      exact ⟨sl, hkeep b (fun z => hef (z ▸ hb)) (hLl b (hal b ⟨o, q⟩)) _ q'⟩
    have hxok := hr x (.head _)
    refine wpAny_execs_cons (wpAny_Try_except ?_)
    refine st_meth1 F8 (pe_name (ld_local F8 (x := "actual") (by show m' _ = _; exact q2) rfl)) X2 (pe_name (ld_local F8 (x := "item") (P := D (f x)) rfl hv8)) PySem.F.slot_list_remove PySem.F.type_list_remove fun v9 s9 F9 k9 hv9 => ?_
    have Y1 := X1.mono (kps_kp k9)
    have Y2 := X2.mono (kps_kp k9)
    have Y3 := X3.mono (kps_kp k9)
    have kv9 := kv5.trans (kv58.trans (vw_mono (kps_kp k9)))
    have FU9 : FU fs s.heap s9.heap := fun b hb o q => let ⟨sl, q'⟩ := FU8 b hb o q; ⟨sl, kps_kp k9 _ _ q'⟩
    by_cases hin : cur.contains x = true
    · have hin' : x ∈ cur := by simpa using hin
      refine call_remove T (hwa _ (.head _)) Y2 hv9 hin' hc hl2 R'.un65 fun s10 now2 => ?_
      refine wpAny_execs_nil (wpAny_execs_nil (wpAny_execs_nil ⟨.inl rfl, r.length, by simp, r, ms, cur.erase x, _, rfl, F9.kb now2.kb (now2.ok F9.ok) hMa, by show m' _ = _; exact q1, by show m' _ = _; exact q2, by show m' _ = _; exact q3, ?_⟩))
      refine ⟨Y1.kb' now2.kb (by simpa using hea) hwa, now2.mu, Y3.kb' now2.kb (by simpa using hma) hwa, ?_, ?_, fun z hz => hr z (.tail _ hz), fun z hz => hc z (List.mem_of_mem_erase hz), by simp at hl1; omega, ?_, kv9.trans (kb_vw hwa now2.kb)⟩
      · rw [← hgo]; conv => rhs; unfold uldGo
        rw [if_pos hin]
      · exact fun b hb o q => let ⟨sl, q'⟩ := FU9 b hb o q; ⟨sl, kb_get now2.kb (by intro z; rw [List.mem_singleton.mp z] at hb; exact haf hb) _ q'⟩
      · exact Nat.le_trans (List.erase_sublist.length_le) hl2
    · have hin' : x ∉ cur := by simpa using hin
      have hgo' : uldGo r (ms ++ [x]) cur = uldGo xs.reverse [] ys := by
        rw [← hgo]; conv => rhs; unfold uldGo
        rw [if_neg hin]
      obtain ⟨outer, hfo, S⟩ := hS (by rw [← hgo']; exact uldGo_more _ _ _ (by simp))
      subst hfo
      refine call_missed T R'.hd Y2 hv9 hin' hc hxok R'.un65 fun h' tk ex hx' => ?_
      have S9 := stk_cons hA' S F9 rfl FU9
      have hfw : ∀ b ∈ L :: fsOf outer, b ∈ miss :: W' := fun b hb => by
        rcases List.mem_cons.mp hb with rfl | hb
        · exact hwL _ (.head _)
        · exact .tail _ (hWs _ (hfs b hb))
      refine catch_value S9 (K := KK w) ((hW.mono kv9).mono (vw_sub hfw)) hx' rfl (fun s10 up E2 => ?_) rfl
      have hef' : e ∉ L :: fsOf outer := fun hb => (List.mem_cons.mp hb).elim (fun q => hLl e hne (List.mem_singleton.mpr q)) hef
      have haf' : a ∉ L :: fsOf outer := fun hb => (List.mem_cons.mp hb).elim (fun q => hLl a hna (List.mem_singleton.mpr q)) haf
      have hmf' : miss ∉ L :: fsOf outer := fun hb => (List.mem_cons.mp hb).elim (fun q => hmL (List.mem_singleton.mpr q)) fun q => hmW (hWs _ (hfs _ q))
      have F10 := F9.up up S9.dat (fun b hb => (List.mem_cons.mp hb).elim (fun q => by rw [q]; exact F9.off _ (.head _)) fun q => hideAll_none _ (.tail _ (.tail _ q))) (fun n c hn => nomatch (show (none : Option Addr) = some c from hn))
      have Z1 := Y1.kb' up.kb hef' hfw
      have Z2 := Y2.kb' up.kb haf' hfw
      have Z3 := Y3.kb' up.kb hmf' hfw
      have hv10 : (D (f x)).p v (Vw (miss :: W') s10.heap) := VP.mono _ ((vw_mono (kps_kp k9)).trans (kb_vw hfw up.kb)) hv8
      have FU10 : FU (fsOf outer) s.heap s10.heap := fun b hb o q => by
        obtain ⟨sl, q'⟩ := FU9 b hb o q
        obtain ⟨en, hen, hf⟩ := List.mem_filterMap.mp hb
        obtain ⟨_, L', o', hf', q2, hd⟩ := S.2 en hen
        rw [hf] at hf'; cases hf'
        rw [q] at q2; cases q2
        obtain ⟨sl', q3⟩ := up.up b (.tail _ hb) _ q' hd
        exact ⟨sl', q3⟩
      refine st_meth1 F10 (pe_name (ld_local F10 (x := "missing") (by show m' _ = _; exact q3) rfl)) Z3 (pe_name (ld_local F10 (x := "item") (P := D (f x)) rfl hv10)) PySem.F.slot_list_append PySem.F.type_list_append fun v11 s11 F11 k11 hv11 => ?_
      refine call_append (hwm _ (.head _)) (Z3.mono (kps_kp k11)) hv11 (by rw [List.length_map]; omega) fun s12 now2 => ?_
      have hMm := hide1 (fun z => hmW (hW' ▸ List.mem_append_left _ z)) (none_of (vw_kp (e :: a :: fsOf outer) s.heap) hms)
      refine wpAny_execs_nil (wpAny_execs_nil ⟨.inl rfl, r.length, by simp, r, ms ++ [x], cur, _, rfl, F11.kb now2.kb (now2.ok F11.ok) hMm, by show m' _ = _; exact q1, by show m' _ = _; exact q2, by show m' _ = _; exact q3, ?_⟩)
      refine ⟨(Z1.mono (kps_kp k11)).kb' now2.kb (by simpa using Ne.symm hme) hwm, (Z2.mono (kps_kp k11)).kb' now2.kb (by simpa using Ne.symm hma) hwm, by simpa using now2.mu, hgo', ?_, fun z hz => hr z (.tail _ hz), hc, by simp at hl1 ⊢; omega, hl2, ?_⟩
      · exact fun b hb o q => let ⟨sl, q'⟩ := FU10 b hb o q; ⟨sl, kb_get now2.kb (by intro z; rw [List.mem_singleton.mp z] at hb; exact hmW (hWs _ (hfs _ hb))) _ (kps_kp k11 _ _ q')⟩
      · exact kv9.trans ((kb_vw hfw up.kb).trans ((vw_mono (kps_kp k11)).trans (kb_vw hwm now2.kb)))
end
end Mine
set_option maxRecDepth 100000
set_option linter.unusedVariables false
namespace Mine
open PySem PySem.Spec PySem.Calls PyProof.Rows PySem.W PySem.MeetsSeq
section
variable {prog : Program} {w : World} {W : List Addr} {A : Around} {env : Env} {s₀ s : Shared} {K : Frag} {mg mb : Str → Option Value} {P P1 P2 : VP} {pos p px : Pos}

theorem op_modN {x y : Nat} (h0 : 0 < y) (a b : Value) (s : Shared) (ha : (D (.int (x : Int))).p a (Vw W s.heap)) (hb : (D (.int (y : Int))).p b (Vw W s.heap)) : Ev prog w W A (binaryOp .Mod a b) (D (.int ((x % y : Nat) : Int))) s := by
  have := op_mod (prog := prog) (w := w) (A := A) (x := x) (y := y) (by omega) a b s ha hb
  rwa [Int.fmod_eq_emod_of_nonneg _ (by omega)] at this
theorem op_fdivN {x y : Nat} (h0 : 0 < y) (hs : y < 1073741824) (a b : Value) (s : Shared) (ha : (D (.int (x : Int))).p a (Vw W s.heap)) (hb : (D (.int (y : Int))).p b (Vw W s.heap)) : Ev prog w W A (binaryOp .FloorDiv a b) (D (.int ((x / y : Nat) : Int))) s := by
  have := op_fdiv (prog := prog) (w := w) (A := A) (x := x) (y := y) (by omega) (by simpa using hs) a b s ha hb
  rwa [Int.fdiv_eq_ediv_of_nonneg _ (by omega)] at this
theorem op_powN {x y : Nat} (hsz : (Builtin.Int.intBits x : Int) * y ≤ 2 ^ 27) (a b : Value) (s : Shared) (ha : (D (.int (x : Int))).p a (Vw W s.heap)) (hb : (D (.int (y : Int))).p b (Vw W s.heap)) : Ev prog w W A (binaryOp .Pow a b) (D (.int ((x ^ y : Nat) : Int))) s := by
  have := op_pow (prog := prog) (w := w) (A := A) (x := x) (y := y) (by omega) hsz a b s ha hb
  simpa using this
theorem op_addN {x y : Nat} (a b : Value) (s : Shared) (ha : (D (.int (x : Int))).p a (Vw W s.heap)) (hb : (D (.int (y : Int))).p b (Vw W s.heap)) : Ev prog w W A (binaryOp .Add a b) (D (.int ((x + y : Nat) : Int))) s := by
  have := op_add_int (prog := prog) (w := w) (A := A) a b s ha hb
  simpa using this
theorem op_subN {x y : Nat} (h : y ≤ x) (a b : Value) (s : Shared) (ha : (D (.int (x : Int))).p a (Vw W s.heap)) (hb : (D (.int (y : Int))).p b (Vw W s.heap)) : Ev prog w W A (binaryOp .Sub a b) (D (.int ((x - y : Nat) : Int))) s := by
  have := op_sub_int (prog := prog) (w := w) (A := A) a b s ha hb
  rwa [← Int.ofNat_sub h] at this
theorem op_mulN {x y : Nat} (hm : IntMulOk x y) (a b : Value) (s : Shared) (ha : (D (.int (x : Int))).p a (Vw W s.heap)) (hb : (D (.int (y : Int))).p b (Vw W s.heap)) : Ev prog w W A (binaryOp .Mult a b) (D (.int ((x * y : Nat) : Int))) s := by
  have := op_mul_int (prog := prog) (w := w) (A := A) hm a b s ha hb
  simpa using this
theorem pe_nat {i n : Nat} : PE prog w W A env s₀ (.Constant (.int (i : Int)) n pos) (D (.int (i : Int))) := pe_int
theorem srcs_upto {n : Nat} {v : Value} (hA : A.handled = none) (hn : n ≤ sizeLine) (hv : (RangeV 0 (n : Int) 1).p v (Vw W s.heap)) : Srcs prog w W A v s ((List.range n).map fun i : Nat => D (.int (i : Int))) := by
  have := srcs_range (prog := prog) (w := w) hA (fit_up hn) (size_up _) hv
  simpa using this
theorem call_upto {n : Nat} (vs : List Value) (s : Shared) (hv : VAll (Vw W s.heap) [D (.int (n : Int))] vs) : Ev prog w W A (call (.type "range") vs) (RangeV 0 (n : Int) 1) s := call_range1 vs s hv
end

def abc : Nat → Str := sign "abc"
def aBC : Nat → Str := sign "ABC"
def xy : Nat → Str := sign "xy"
def postOf (c k : Nat) : Str := sign (if k % 2 = 0 then "abc" else "ABC") ((c / 6 ^ k % 6) / 2) ++ xy (c / 6 ^ k % 2)
def postsOf (c n : Nat) : List Str := (List.range n).map (postOf c)
end Mine
set_option maxRecDepth 100000
set_option linter.unusedVariables false
namespace Mine
open PySem PySem.Spec PySem.Calls PyProof.Rows PySem.W PySem.MeetsSeq

section
variable {prog : Program} {w : World} {W : List Addr} {A : Around} {env : Env} {s₀ s : Shared} {x : Str} {px pos : Pos}

/-- one level of a comprehension -/
theorem comp_level {e : Expr} {d : Nat} {acc : Value} {cenv : Env} {p : Pos} {ifs : List Expr} {fin : Sem Fin} {I : Addr} {fp : List Addr} {n : Nat} {P : Nat → Value → Prop} {St : Nat → Heap → Prop} {R : Result → Shared → Prop}
    (hturn : compTurn e d (.ref I) acc cenv = (do
      standAt p
      match ← pyNext (.ref I) with
      | none => pure (.done .next)
      | some v =>
        letOwnedTupleGo (.Name x px) (.ref I) v
        assign (.Name x px) cenv v
        let mut ok := true
        for c in ifs do
          if ok then ok ← isTrue c cenv (eval c cenv)
        if ok then fin else again (.compLoop e d (.ref I) acc cenv)))
    (Wk : Walks prog w A I fp [I] n P St) (J : Nat → Shared → Prop)
    (hJ : ∀ i s h₁ tk₁, J i s → (∀ b o, b ≠ I → s.heap.get? b = some o → h₁.get? b = some o) → J i { s with heap := h₁, toks := tk₁ })
    (turn : ∀ i v s, i < n → J i s → P i v → St (i + 1) s.heap → ∀ E, wpAny (model prog w) A (assign (.Name x px) cenv v) (fun _ s₂ => wpAny (model prog w) A (tests ifs cenv) (fun ok s₃ =>
      if ok = true then wpAny (model prog w) A fin (fun r s₄ => r = .again (.compLoop e d (.ref I) acc cenv) ∧ J (i + 1) s₄ ∧ ∀ b ∈ fp, ∀ o, s.heap.get? b = some o → s₄.heap.get? b = some o) E s₃
      else J (i + 1) s₃ ∧ ∀ b ∈ fp, ∀ o, s.heap.get? b = some o → s₃.heap.get? b = some o) E s₂) E s)
    (hend : ∀ s, J n s → R (.ok .next) s) (h0 : J 0 s) (hst : St 0 s.heap) (hu : A.under (.compLoop e d (.ref I) acc cenv) = A)
    (hd : (model prog w).den (.compLoop e d (.ref I) acc cenv) = (compTurn e d (.ref I) acc cenv).onRaise (fun x => do noteFrame x cenv; theTreesLotGoes x)) (hq : (Code.compLoop e d (.ref I) acc cenv).quiet = true) : codeAny (model prog w) A (.compLoop e d (.ref I) acc cenv) R s := by
  refine codeAny_loop hq (fun k s' => ∃ i, J i s' ∧ St i s'.heap ∧ i ≤ n ∧ k = n + 1 - i) ?_ (n + 1) ⟨0, h0, hst, Nat.zero_le _, rfl⟩
  rintro k s' ⟨i, hj, hst', hi, rfl⟩
  rw [hu, hd]
  refine wpAny_noted ?_
  rw [hturn]
  by_cases hlt : i < n
  · refine wpAny_bind (wpAny_standAt (wpAny_bind (Wk.item i _ _ _ hlt hst' fun v h₁ tk₁ hPv hst₁ hk₁ => ?_)))
    have hj₁ := hJ i s' h₁ tk₁ hj fun b o hb e => hk₁ b o (by simpa using hb) e
    refine wpAny_bind (wpAny_of_eq (a := ()) rfl ?_)
    refine wpAny_bind (wpAny_mono (turn i v _ hlt hj₁ hPv hst₁ _) (fun _ s₂ h₂ => wpAny_bind (wpAny_mono h₂ (fun ok s₃ h₃ => ?_) fun _ _ h' => h')) fun _ _ h' => h')
    have ends : ∀ s₄, J (i + 1) s₄ → (∀ b ∈ fp, ∀ o, h₁.get? b = some o → s₄.heap.get? b = some o) → ∃ m, m < n + 1 - i ∧ ∃ j, J j s₄ ∧ St j s₄.heap ∧ j ≤ n ∧ m = n + 1 - j :=
      fun s₄ a b => ⟨n + 1 - (i + 1), by omega, i + 1, a, Wk.frame _ _ _ hst₁ b, hlt, rfl⟩
    cases ok with
    | false => exact wpAny_pure ⟨rfl, ends s₃ h₃.1 h₃.2⟩
    | true => exact wpAny_mono h₃ (fun r s₄ h₄ => by obtain ⟨rfl, h₅, h₆⟩ := h₄; exact ⟨rfl, ends s₄ h₅ h₆⟩) fun _ _ h' => h'
  · have hin : i = n := by omega
    subst hin
    refine wpAny_bind (wpAny_standAt (wpAny_bind (Wk.done _ _ _ hst' fun h₁ tk₁ hk₁ => ?_)))
    exact wpAny_pure (hend _ (hJ _ s' h₁ tk₁ hj fun b o hb e => hk₁ b o (by simpa using hb) e))

/-- how the name gone through is bound -/
structure Tg (prog : Program) (w : World) (cenv : Env) (x : Str) (b0 : Addr) (Lv : Heap → Prop) (Bd : Value → Heap → Prop) : Prop where
  store : ∀ {A : Around} {v : Value} {s : Shared} {Q : Unit → Shared → Prop} {E : Value → Shared → Prop}, Lv s.heap → (∀ h' tk, Heap.SameBut b0 s.heap h' → Bd v h' → Q () { s with heap := h', toks := tk }) → wpAny (model prog w) A (storeName cenv x v) Q E s
  load : ∀ {A : Around} {v : Value} {s : Shared} {Q : Value → Shared → Prop} {E : Value → Shared → Prop}, Bd v s.heap → Q v s → wpAny (model prog w) A (loadName cenv x) Q E s
  keep : ∀ {v : Value} {h h' : Heap}, (∀ o, h.get? b0 = some o → h'.get? b0 = some o) → Bd v h → Bd v h'
  lkeep : ∀ {h h' : Heap}, (∀ o, h.get? b0 = some o → h'.get? b0 = some o) → Lv h → Lv h'
  live : ∀ {v : Value} {h : Heap}, Bd v h → Lv h
  there : ∀ {h : Heap}, Lv h → ∃ o, h.get? b0 = some o

theorem tg_local {cenv : Env} (hk : cenv.scope.kind = .function) (hx : cenv.kindOf x = some .local) : Tg prog w cenv x cenv.locals (fun h => ∃ m, h.Ns cenv.locals m) (fun v h => ∃ m, h.Ns cenv.locals m ∧ m x = some v) where
  store := fun ⟨m, hn⟩ h => wpAny_storeName_local hx hn (fun h' hn' hs' => h h' _ hs' ⟨_, hn', by simp⟩) (by rw [hk]; rfl)
  load := fun ⟨m, hn, hm⟩ h => wpAny_loadName_local hk hx hn hm h
  keep := fun k ⟨m, hn, hm⟩ => ⟨m, hn.at' k, hm⟩
  lkeep := fun k ⟨m, hn⟩ => ⟨m, hn.at' k⟩
  live := fun ⟨m, hn, hm⟩ => ⟨m, hn⟩
  there := fun ⟨m, ⟨o, _, _, e, _⟩⟩ => ⟨o, e⟩
theorem tg_cell {cenv : Env} {c : Addr} (hk : cenv.scope.kind = .function) (hx : cenv.kindOf x = some .cell) (hc : cenv.cells.lookup x = some c) : Tg prog w cenv x c (fun h => ∃ o, h.IsCell c o) (fun v h => h.IsCell c (some v)) where
  store := fun ⟨o, hn⟩ h => wpAny_storeName_cell hk hx hc hn fun h' hn' hs' => h h' _ hs' hn'
  load := fun hn h => wpAny_loadName_cell hk hx hc hn h
  keep := fun k ⟨o, e, d⟩ => ⟨o, k o e, d⟩
  lkeep := fun k ⟨v, o, e, d⟩ => ⟨v, o, k o e, d⟩
  live := fun hn => ⟨_, hn⟩
  there := fun ⟨v, o, e, d⟩ => ⟨o, e⟩
end
end Mine
set_option maxRecDepth 100000
set_option linter.unusedVariables false
namespace Mine
open PySem PySem.Spec PySem.Calls PyProof.Rows PySem.W PySem.MeetsSeq

section
variable {prog : Program} {w : World} {W : List Addr} {A : Around} {env : Env} {s₀ s : Shared} {x : Str} {px pos : Pos}

abbrev NewEnv (prog : Program) (w : World) (A : Around) (scope : Scope) (env : Env) (cl : List (Str × Addr)) (cv : Addr → Env) (Lv : Addr → Heap → Prop) : Prop :=
  ∀ (s : Shared) (E : Value → Shared → Prop) (Q : Env → Shared → Prop), (∀ cenv h₁ tk, { cenv with scope := relabel scope env } = cv s.heap.objs.size → cenv.locals = s.heap.objs.size → Kp s.heap h₁ → (∃ m, h₁.Ns s.heap.objs.size m) → Lv s.heap.objs.size h₁ → Q cenv { s with heap := h₁, toks := tk }) →
    wpAny (model prog w) A (newFunctionEnv scope env.globals cl [] env.qual none .none (some env)) Q E s

/-- what is gathered -/
structure Gath (oA : Obj) (n : Nat) (tb : Nat → Bool) (Ac : Addr → List Addr → Nat → Heap → Prop) : Prop where
  zero : ∀ {D W' h}, h.get? D = some oA → Ac D W' 0 h
  keep : ∀ {D W' i h h'}, Ac D W' i h → (∀ o, h.get? D = some o → h'.get? D = some o) → Kp (Vw W' h) (Vw W' h') → Ac D W' i h'
  there : ∀ {D W' i h}, Ac D W' i h → ∃ o, h.get? D = some o
  skip : ∀ {D W' i h}, tb i = false → Ac D W' i h → Ac D W' (i + 1) h

theorem comp_one {e : Expr} {scope : Scope} {cl : List (Str × Addr)} {cv : Addr → Env} {b0 : Addr → Addr} {Lv : Addr → Heap → Prop} {Bd : Addr → Value → Heap → Prop} {p : Pos} {ifs : List Expr} {newAcc : Sem Value} {oA : Obj} {fin : Addr → Addr → Addr → Sem Fin}
    {s₁ : Shared} {oI : Obj} {fp : List Addr} {n : Nat} {Pi : Nat → VP} {tb : Nat → Bool} {St : Nat → Heap → Prop} {Ac : Addr → List Addr → Nat → Heap → Prop} {E : Value → Shared → Prop} {RR : Value → Addr → Result → Shared → Prop}
    (Wk : Walks prog w A s₁.heap.objs.size fp [s₁.heap.objs.size] n (fun i v => (Pi i).p v (Vw W s₁.heap)) St) (hst : St 0 (s₁.heap.push oI)) (hfp : ∀ b ∈ fp, b < (s₁.heap.push oI).objs.size) (hw : WOK W s₁.heap)
    (hnewAcc : ∀ (s : Shared) (E : Value → Shared → Prop) (Q : Value → Shared → Prop), Q (.ref s.heap.objs.size) { s with heap := s.heap.push oA } → wpAny (model prog w) A newAcc Q E s) (hoA : oA.isFreed = false)
    (hnew : NewEnv prog w A scope env cl cv Lv) (hcv : ∀ C, (cv C).locals = C) (tg : ∀ C, Tg prog w (cv C) x (b0 C) (Lv C) (Bd C)) (hb0 : ∀ C, @LE.le Nat _ C (b0 C)) (hNsB : ∀ C h, b0 C = C → Lv C h → ∃ m, h.Ns C m)
    (hturn : ∀ I D C, compTurn e 0 (.ref I) (.ref D) (cv C) = (do
      standAt p
      match ← pyNext (.ref I) with
      | none => pure (.done .next)
      | some v =>
        letOwnedTupleGo (.Name x px) (.ref I) v
        assign (.Name x px) (cv C) v
        let mut ok := true
        for c in ifs do
          if ok then ok ← isTrue c (cv C) (eval c (cv C))
        if ok then fin I D C else again (.compLoop e 0 (.ref I) (.ref D) (cv C))))
    (hu : ∀ I D C, A.under (.compLoop e 0 (.ref I) (.ref D) (cv C)) = A)
    (hd : ∀ I D C, (model prog w).den (.compLoop e 0 (.ref I) (.ref D) (cv C)) = (compTurn e 0 (.ref I) (.ref D) (cv C)).onRaise (fun x => do noteFrame x (cv C); theTreesLotGoes x)) (hq : ∀ I D C, (Code.compLoop e 0 (.ref I) (.ref D) (cv C)).quiet = true)
    (hstart : ∀ I D C (R : Result → Shared → Prop) (s : Shared), codeAny (model prog w) A (.compLoop e 0 (.ref I) (.ref D) (cv C)) R s → (∀ E, wpAny (model prog w) A (pyIter (.ref I)) (fun it' s' => codeAny (model prog w) A (.compLoop e 0 it' (.ref D) (cv C)) R s') E s) →
      codeAny (model prog w) A (.compStart e 0 (.ref I) (.ref D) (cv C)) R s)
    (G : Gath oA n tb Ac)
    (T : ∀ i, i < n → ∀ (D : Addr) (W' : List Addr) (C : Addr) (s : Shared) (v : Value), Keeps s₁ s → Kp (Vw W s₁.heap) (Vw W' s.heap) → WOK W' s.heap → D ∈ W' → D ≠ b0 C → s₁.heap.get? D = none → s₁.heap.get? C = none → Bd C v s.heap → (∀ P : VP, P.p v (Vw W' s.heap) → Ld prog w W' A (cv C) s x P) → (Pi i).p v (Vw W' s.heap) →
      (∀ (E : Value → Shared → Prop) (Q : Bool → Shared → Prop), (∀ s', Keeps s s' → Q (tb i) s') → wpAny (model prog w) A (tests ifs (cv C)) Q E s) ∧
      (tb i = true → ∀ s', Keeps s s' → Ac D W' i s'.heap → (∃ m, s'.heap.Ns C m) → Bd C v s'.heap → C ∈ W' → D ≠ C → ∀ (E : Value → Shared → Prop) (Q : Fin → Shared → Prop), (∀ s'', KB [D, C] s' s'' → (∃ m, s''.heap.Ns C m) → Lv C s''.heap → Ac D W' (i + 1) s''.heap → Q (.again (.compLoop e 0 (.ref s₁.heap.objs.size) (.ref D) (cv C))) s'') → wpAny (model prog w) A (fin s₁.heap.objs.size D C) Q E s'))
    (hRR : ∀ (D C : Addr) h' tk, @LE.le Nat _ s₁.heap.objs.size D → @LE.le Nat _ s₁.heap.objs.size C → D ≠ C → (∃ m, h'.Ns C m) → Ac D (D :: b0 C :: C :: s₁.heap.objs.size :: W) n h' → Kp s₁.heap h' → @LE.le Nat _ C (b0 C) → D ≠ b0 C →
      RR (.ref D) C (.ok .next) { s₁ with heap := h', toks := tk }) :
    wpAny (model prog w) A newAcc (fun acc s₃ => wpAny (model prog w) A (newFunctionEnv scope env.globals cl [] env.qual none .none (some env)) (fun cenv s₄ =>
      codeAny (model prog w) A (.compStart e 0 (.ref s₁.heap.objs.size) acc { cenv with scope := relabel scope env }) (RR acc cenv.locals) s₄) E s₃) E { s₁ with heap := s₁.heap.push oI } := by
  refine hnewAcc _ _ _ (hnew _ _ _ fun cenv h₁ tk hce hcl hkk hns hlv => ?_)
  dsimp only at hkk hns hlv hce hcl ⊢
  rw [hce, hcl]
  have hI0 : s₁.heap.get? s₁.heap.objs.size = none := get_size_none _ (Nat.le_refl _)
  generalize hI : s₁.heap.objs.size = I at *
  have hD : (s₁.heap.push oI).objs.size = I + 1 := by rw [Heap.size_push, hI]
  have hC : ((s₁.heap.push oI).push oA).objs.size = I + 2 := by rw [Heap.size_push, hD]
  rw [hD] at hfp ⊢
  rw [hC] at hns hlv ⊢
  have hb := hb0 (I + 2)
  have tgc := tg (I + 2)
  have hcvl := hcv (I + 2)
  have hDI : (I + 1 : Nat) ≠ I := by omega
  have hCI : (I + 2 : Nat) ≠ I := by omega
  have hDC : (I + 1 : Nat) ≠ I + 2 := by omega
  have hB : @LE.le Nat _ (I + 2) (b0 (I + 2)) := hb
  have hBI : (b0 (I + 2) : Nat) ≠ I := Nat.ne_of_gt (Nat.lt_of_lt_of_le (Nat.lt_add_of_pos_right (by decide)) hB)
  have hDB : (I + 1 : Nat) ≠ b0 (I + 2) := Nat.ne_of_lt (Nat.lt_of_lt_of_le (Nat.lt_succ_self (I + 1)) hB)
  have hfD : ∀ b ∈ fp, b ≠ (I + 1 : Nat) := fun b hb q => by have h1 := hfp b hb; rw [q] at h1; exact Nat.lt_irrefl _ h1
  have hfB : ∀ b ∈ fp, b ≠ b0 (I + 2) := fun b hb q => by have h1 : (b : Nat) < I + 1 := hfp b hb; have h2 : (b : Nat) = b0 (I + 2) := q; rw [h2] at h1; exact absurd h1 (Nat.not_lt.mpr (Nat.le_trans (Nat.le_succ _) hB))
  have hfC : ∀ b ∈ fp, b ≠ (I + 2 : Nat) := fun b hb q => by have h1 := hfp b hb; rw [q] at h1; exact Nat.lt_irrefl _ (Nat.lt_of_succ_lt h1)
  have hge : ∀ c : Nat, I ≤ c → s₁.heap.get? c = none := fun c hc => get_size_none _ (by rw [hI]; exact hc)
  have hD0 := hge (I + 1) (by omega)
  have hC0 := hge (I + 2) (by omega)
  have hB0 := hge (b0 (I + 2)) (Nat.le_trans (Nat.le_add_right _ _) hB)
  have oldP : Kp (s₁.heap.push oI) h₁ := fun b o q => hkk b o (Heap.get?_push_of_some _ q)
  have old : Kp s₁.heap h₁ := fun b o q => oldP b o (Heap.get?_push_of_some _ q)
  have hacc : h₁.get? (I + 1 : Nat) = some oA := hkk _ _ (by have := Heap.get?_push_size (s₁.heap.push oI) hoA; rw [hD] at this; exact this)
  have hDle : I ≤ (I + 1 : Nat) := by omega
  have hCle : I ≤ (I + 2 : Nat) := by omega
  generalize hDd : (I + 1 : Nat) = D at *
  generalize hCc : (I + 2 : Nat) = C at *
  clear hDd hCc
  let W' := D :: b0 C :: C :: I :: W
  have away : ∀ h : Heap, Kp s₁.heap h → Kp (Vw W s₁.heap) (Vw W' h) := fun h k b o q => by
    obtain ⟨e1, e2⟩ := vw_of q
    refine vw_to (k b o e1) fun hm => ?_
    rcases List.mem_cons.mp hm with rfl | hm
    · rw [hD0] at e1; cases e1
    rcases List.mem_cons.mp hm with rfl | hm
    · rw [hB0] at e1; cases e1
    rcases List.mem_cons.mp hm with rfl | hm
    · rw [hC0] at e1; cases e1
    rcases List.mem_cons.mp hm with rfl | hm
    · rw [hI0] at e1; cases e1
    exact e2 hm
  have hst₁ : St 0 h₁ := Wk.frame _ _ _ hst fun b _ o q => oldP b o q
  have okW : ∀ h : Heap, Kp s₁.heap h → (∃ o, h.get? D = some o) → (∃ o, h.get? (b0 C) = some o) → (∃ m, h.Ns C m) → WOK W' h := fun h k ⟨o1, h1⟩ ⟨o2, h2⟩ ⟨m, hn⟩ b hb => by
    rcases List.mem_cons.mp hb with rfl | hb
    · exact ⟨_, o1, Nat.le_refl _, h1⟩
    rcases List.mem_cons.mp hb with rfl | hb
    · exact ⟨_, o2, Nat.le_refl _, h2⟩
    rcases List.mem_cons.mp hb with rfl | hb
    · obtain ⟨o, _, _, q, _⟩ := hn
      exact ⟨_, o, Nat.le_refl _, q⟩
    rcases List.mem_cons.mp hb with rfl | hb
    · exact ⟨D, o1, hDle, h1⟩
    exact (hw.mono k) b hb
  have loop : codeAny (model prog w) A (.compLoop e 0 (.ref I) (.ref D) (cv C)) (RR (.ref D) C) { s₁ with heap := h₁, toks := tk } := by
    refine comp_level (hturn I D C) Wk (fun i s' => Keeps s₁ s' ∧ (∃ m, s'.heap.Ns C m) ∧ Lv C s'.heap ∧ Ac D W' i s'.heap) ?_ ?_ ?_
      ⟨⟨h₁, tk, rfl, old⟩, hns, hlv, G.zero hacc⟩ hst₁ (hu I D C) (hd I D C) (hq I D C)
    · rintro i s' h' tk' ⟨k1, ⟨m, k2⟩, k3, k4⟩ hk'
      have kp : Kp s₁.heap h' := fun b o q => hk' b o (fun z => by rw [z, hI0] at q; cases q) (kps_kp k1 b o q)
      refine ⟨?_, ⟨m, k2.at' fun o => hk' _ o hCI⟩, tgc.lkeep (fun o => hk' _ o hBI) k3, G.keep k4 (fun o => hk' _ o hDI) fun b o q => ?_⟩
      · obtain ⟨g, t, rfl, _⟩ := k1
        exact ⟨h', tk', rfl, kp⟩
      · exact vw_to (hk' b o (fun z => (vw_of q).2 (by rw [z]; simp [W'])) (vw_of q).1) (vw_of q).2
    · rintro i v s' hi ⟨k1, ⟨m, k2⟩, k3, k4⟩ hP hst' E'
      refine wpAny_assign_Name (tgc.store k3 fun h₂ tk₂ hs₂ hbd => ?_)
      have kp2 : Kp s₁.heap h₂ := fun b o q => hs₂.extBut b o (fun z => by rw [z, hB0] at q; cases q) (kps_kp k1 b o q)
      have kps2 : Keeps s₁ { s' with heap := h₂, toks := tk₂ } := by
        obtain ⟨g, t, rfl, _⟩ := k1
        exact ⟨h₂, tk₂, rfl, kp2⟩
      have ac2 : Ac D W' i h₂ := G.keep k4 (fun o q => hs₂.extBut _ o hDB q) fun b o q => vw_to (hs₂.extBut b o (fun z => (vw_of q).2 (by rw [z]; simp [W'])) (vw_of q).1) (vw_of q).2
      have ns2 : ∃ m, h₂.Ns C m := by
        obtain ⟨mm, q⟩ : ∃ m, s'.heap.Ns C m := ⟨m, k2⟩
        by_cases z : b0 C = C
        · have := tgc.there (tgc.live hbd)
          exact hNsB C h₂ z (tgc.live hbd)
        · exact ⟨mm, q.sameBut hs₂ fun y => z y.symm⟩
      have ok2 : WOK W' h₂ := okW h₂ kp2 (G.there ac2) (tgc.there (tgc.live hbd)) ns2
      obtain ⟨t1, t2⟩ := T i hi D W' C { s' with heap := h₂, toks := tk₂ } v kps2 (away h₂ kp2) ok2 (.head _) hDB hD0 hC0 hbd (fun P hP s3 k3 _ E Q hQ => tgc.load (tgc.keep (fun o => kps_kp k3 _ o) hbd) (hQ _ _ (kps_refl _) (P.mono (vw_mono (kps_kp k3)) hP))) ((Pi i).mono (away h₂ kp2) hP)
      refine t1 _ _ fun s3 k3 => ?_
      have fpk : ∀ b ∈ fp, ∀ o, s'.heap.get? b = some o → s3.heap.get? b = some o := fun b hb o q => kps_kp k3 _ _ (hs₂.extBut b o (hfB b hb) q)
      have lv3 : Lv C s3.heap := tgc.lkeep (fun o => kps_kp k3 _ o) (tgc.live hbd)
      have ac3 : Ac D W' i s3.heap := G.keep ac2 (fun o => kps_kp k3 _ o) (vw_mono (kps_kp k3))
      obtain ⟨m3, n3⟩ := ns2
      cases hb : tb i with
      | false =>
        simp only [Bool.false_eq_true, if_false]
        exact ⟨⟨kps_trans kps2 k3, ⟨m3, n3.keeps (kps_kp k3)⟩, lv3, G.skip hb ac3⟩, fpk⟩
      | true =>
        simp only [if_true]
        refine t2 hb s3 k3 ac3 ⟨m3, n3.keeps (kps_kp k3)⟩ (tgc.keep (fun o => kps_kp k3 _ o) hbd) (.tail _ (.tail _ (.head _))) hDC _ _ fun s4 k4 ns4 lv4 ac4 => ?_
        have kd : ∀ b, b ≠ D → b ≠ C → ∀ o, s3.heap.get? b = some o → s4.heap.get? b = some o := fun b hb hb' o q => kb_kp k4 _ _ (vw_to q (by simp [hb, hb']))
        refine ⟨rfl, ⟨kb_new (kps_trans kps2 k3) (fun b hb => ?_) k4, ns4, lv4, ac4⟩, fun b hb o q => kd b (hfD b hb) (hfC b hb) o (fpk b hb o q)⟩
        rcases List.mem_cons.mp hb with rfl | hb
        · exact hD0
        · rw [List.mem_singleton.mp hb]; exact hC0
    · rintro s' ⟨k1, k2, k3, k4⟩
      obtain ⟨g, t, rfl, kk⟩ := k1
      exact hRR D C g t hDle hCle hDC k2 k4 kk hb hDB
  exact hstart I D C _ _ loop fun E => Wk.self 0 _ _ _ hst₁ loop
end
end Mine
set_option maxRecDepth 100000
set_option linter.unusedVariables false
namespace Mine
open PySem PySem.Spec PySem.Calls PyProof.Rows PySem.W PySem.MeetsSeq

section
variable {prog : Program} {w : World} {W : List Addr} {A : Around} {env : Env} {s₀ s : Shared} {x : Str} {px pos : Pos} {P P1 P2 : VP} {α : Type}

theorem newEnv_local {scope : Scope} {cl : List (Str × Addr)} (hcell : ∀ y ∈ scope.names, y.2 ≠ .cell) (hkind : scope.kind = .function) :
    NewEnv prog w A scope env cl (fun C => compEnvC scope cl C env) (fun C h => ∃ m, h.Ns C m) := fun s E Q h => by
  refine wpAny_newFunctionEnv hcell (by intro y hy; simp at hy) (fun h₁ hns hsb => ?_) hkind
  refine h _ h₁ _ rfl rfl (fun b o e => ?_) ⟨_, hns⟩ ⟨_, hns⟩
  exact hsb.extBut b o (Nat.ne_of_lt (Heap.lt_size e)) (Heap.get?_push_of_some _ e)
theorem newEnv_cell {scope : Scope} {cl : List (Str × Addr)} (hcf : ∀ n, cellsFrom n scope.names cl = (x, n) :: cl) (hpc : ∀ h, pushCells h scope.names = h.push { cls := .type "cell", data := .cell none }) :
    NewEnv prog w A scope env cl (fun C => compEnvC scope ((x, Nat.succ C) :: cl) C env) (fun C h => ∃ o, h.IsCell (Nat.succ C) o) := fun s E Q h => by
  simp only [newFunctionEnv, Option.isSome_some, if_true]
  refine wpAny_bind (wpAny_alloc ?_)
  refine wpAny_bind (wpAny_layCells _ (fun name kind cells => by cases hkc : kind == NameKind.cell <;> simp) _ _ _ _ ?_)
  refine wpAny_bind (wpAny_pure (wpAny_pure ?_))
  have hsz : (s.heap.push { cls := .type "dict", data := .dict #[] }).objs.size = Nat.succ s.heap.objs.size := Heap.size_push ..
  rw [hcf, hpc, hsz]
  refine h _ _ s.toks ?_ rfl (fun b o e => Heap.get?_push_of_some _ (Heap.get?_push_of_some _ e)) ?_ ?_
  · rfl
  · exact ⟨_, (Heap.Ns.new s.heap (.type "dict")).keeps fun b o e => Heap.get?_push_of_some _ e⟩
  · refine ⟨none, ({ cls := .type "cell", data := .cell none } : Obj), ?_, rfl⟩
    have := Heap.get?_push_size (s.heap.push { cls := .type "dict", data := .dict #[] }) (o := { cls := .type "cell", data := .cell none }) rfl
    rw [hsz] at this
    exact this

def AcL (Po : Nat → VP) (tb : Nat → Bool) (D : Addr) (W' : List Addr) (i : Nat) (h : Heap) : Prop := ∃ ys, h.PlainList D ys ∧ VAll (Vw W' h) (tup Po tb i) ys.toList
theorem gath_list (Po : Nat → VP) (tb : Nat → Bool) (n : Nat) : Gath { cls := .type "list", data := .seq ([] : List Value).toArray } n tb (AcL Po tb) where
  zero := fun e => ⟨_, ⟨_, e⟩, by simpa [tup] using VAll.nil⟩
  keep := fun ⟨ys, ⟨q, e⟩, r⟩ k kv => ⟨ys, ⟨q, k _ e⟩, r.mono kv⟩
  there := fun ⟨ys, ⟨q, e⟩, r⟩ => ⟨_, e⟩
  skip := fun hb ⟨ys, e, r⟩ => ⟨ys, e, by rw [tup_succ, hb]; simpa using r⟩

def DcV (prog : Program) (w : World) (kvs : List (Str × VP)) : VP := ⟨fun v h => ∃ (d : Addr) (ps : List (Str × Value)), v = .ref d ∧ h.DictOf (strKind prog w) d ps ∧ ps.map Prod.fst = kvs.map Prod.fst ∧ VAll h (kvs.map Prod.snd) (ps.map Prod.snd),
  by
    rintro v h h' k ⟨d, ps, e, g, q, r⟩
    exact ⟨d, ps, e, g.at fun o => k _ o, q, r.mono k⟩⟩
def AcD (prog : Program) (w : World) (Ko : Nat → Str) (Po : Nat → VP) (D : Addr) (W' : List Addr) (i : Nat) (h : Heap) : Prop :=
  ∃ ps : List (Str × Value), h.DictOf (strKind prog w) D ps ∧ ps.map Prod.fst = tup Ko (fun _ => true) i ∧ VAll (Vw W' h) (tup Po (fun _ => true) i) (ps.map Prod.snd)
theorem gath_dict (Ko : Nat → Str) (Po : Nat → VP) (n : Nat) : Gath { cls := .type "dict", data := .dict #[] } n (fun _ => true) (AcD prog w Ko Po) where
  zero := fun {D W' h} e => ⟨[], ⟨_, #[], 0, e, ⟨rfl, rfl, rfl⟩, rfl, fun _ he => by simp at he, Pairs.nil, List.nodup_nil⟩, rfl, .nil⟩
  keep := fun ⟨ps, e, q, r⟩ k kv => ⟨ps, e.at k, q, r.mono kv⟩
  there := fun ⟨ps, ⟨o, _, _, e, _⟩, _, _⟩ => ⟨o, e⟩
  skip := fun hb => nomatch hb
end
end Mine
set_option maxRecDepth 100000
set_option linter.unusedVariables false
namespace Mine
open PySem PySem.Spec PySem.Calls PyProof.Rows PySem.W PySem.MeetsSeq

section
variable {prog : Program} {w : World} {W : List Addr} {A : Around} {env : Env} {s₀ s : Shared} {K : Frag} {mg mb : Str → Option Value} {P P1 P2 : VP} {pos p px : Pos} {m cm : Str → Option Value} {x : Str} {α : Type}

abbrev celled (scope : Scope) (x : Str) (cl : List (Str × Addr)) (env : Env) (C : Addr) : Env := compEnvC scope ((x, Nat.succ C) :: cl) C env

/-- y = [.. for x in .. if ..], x closed over by a block within -/
theorem st_lc1c {c elt iter : Expr} {y : Str} {py spos : Pos} {scope : Scope} {cl : List (Str × Addr)} {Pit : VP} {Pf Po : α → VP} {tb : α → Bool} {rest : List Stmt} {Q : Flow → Shared → Prop} {E : Value → Shared → Prop} (F : Fm env s₀ W m cm s) (xs : List α)
    (hiter : PE prog w W A env s iter Pit) (hsrc : ∀ v s', Keeps s s' → Pit.p v (Vw W s'.heap) → Srcs prog w W A v s' (xs.map Pf)) (hn : xs.length ≤ sizeLine)
    (T : ∀ y ∈ xs, ∀ (W' : List Addr) (C : Addr) (s' : Shared) (v : Value), Keeps s s' → Kp (Vw W s.heap) (Vw W' s'.heap) → WOK W' s'.heap → s'.heap.IsCell (Nat.succ C) (some v) → (Pf y).p v (Vw W' s'.heap) → PT prog w W' A (celled scope x cl env C) s' c (tb y) ∧ (tb y = true → PE prog w W' A (celled scope x cl env C) s' elt (Po y)))
    (h : ∀ v s', Fm env s₀ W (fun z => if z = y then some v else m z) cm s' → KB [env.locals] s s' → (LsV ((xs.filter tb).map Po)).p v (Vw W s'.heap) → wpAny (model prog w) A (execs rest env) Q E s')
    (hsw : swapsWith (.ListComp elt [⟨.Name x px, iter, [c], 0⟩] scope pos) (some (.Name y py)) spos.line env = pure true := by rfl)
    (hclos : closureFor scope env = pure cl := by rfl) (hkind : scope.kind = .function := by rfl)
    (hcf : ∀ n, cellsFrom n scope.names cl = (x, n) :: cl := by intro _; rfl) (hpc : ∀ h, pushCells h scope.names = h.push { cls := .type "cell", data := .cell none } := by intro _; rfl)
    (hkx : ∀ C, (celled scope x cl env C).kindOf x = some .cell := by intro _; rfl)
    (hnames : ∀ y ∈ scope.names, y.2 = .local → scope.names.lookup y.1 = some .local := by decide) (hy : env.kindOf y = some .local := by rfl)
    (hs : ∀ x, foldedSetIterable iter env x = pure x := by intro _; rfl) :
    wpAny (model prog w) A (execs (.Assign [.Name y py] (.ListComp elt [⟨.Name x px, iter, [c], 0⟩] scope pos) spos :: rest) env) Q E s := by
  refine wpAny_execs_cons ?_
  rw [exec_Assign_Name_used _ _ _ _ hsw]
  refine wpAny_bind (wpAny_standAt (wpAny_bind ?_))
  show wpAny _ A (do let _ ← comprehension (.ListComp elt [⟨.Name x px, iter, [c], 0⟩] scope pos) scope env _ (newList []) false (eval iter env) (some (assign (.Name y py) env))) _ _ s
  refine wpAny_bind (wpAny_mono (wpAny_comprehension_free (use := some (assign (.Name y py) env)) (Q := fun _ s' => wpAny (model prog w) A (execs rest env) Q E s') rfl hs hclos hkind hnames
    (hiter s (kps_refl s) F.ok E _ fun xv s₁ k₁ hv => hsrc xv s₁ k₁ hv (F.ok.mono (kps_kp k₁)) E _ fun o fp St Wk hst hfp _ _ => ?_)) (fun _ s' hq => wpAny_pure (wpAny_pure hq)) fun _ _ e => e)
  have F1 := F.keeps k₁
  rw [List.length_map] at Wk
  have tgc : ∀ C, Tg prog w (celled scope x cl env C) x (Nat.succ C) (fun h => ∃ o, h.IsCell (Nat.succ C) o) (fun v h => h.IsCell (Nat.succ C) (some v)) := fun C => tg_cell (by simp [celled, compEnvC, relabel, hkind]) (hkx C) (by simp [celled, compEnvC])
  refine comp_one (RR := fun acc C => compPost (model prog w) A E (some (assign (.Name y py) env)) (fun _ s' => wpAny (model prog w) A (execs rest env) Q E s') acc C) (oA := { cls := .type "list", data := .seq ([] : List Value).toArray }) (p := iter.pos)
    (fin := fun I D C => (do let _ ← call (.builtin "list.append") [.ref D, ← eval elt (celled scope x cl env C)]) >>= fun _ => again (.compLoop (.ListComp elt [⟨.Name x px, iter, [c], 0⟩] scope pos) 0 (.ref I) (.ref D) (celled scope x cl env C))) (cv := celled scope x cl env) (tb := fun i => (xs[i]?).elim false tb) (ifs := [c])
    Wk hst hfp F1.ok (fun s E Q h => wpAny_newObj_type h) rfl (newEnv_cell hcf hpc) (fun _ => rfl) tgc (fun C => Nat.le_succ C) (fun C h q => absurd q (Nat.succ_ne_self C)) (fun _ _ _ => rfl) (fun _ _ _ => rfl) (fun _ _ _ => rfl) (fun _ _ _ => rfl) (fun I D C R s h1 h2 => codeAny_compStart_list h1 (h2 _))
    (gath_list (fun i => (xs[i]?).elim AnyV Po) (fun i => (xs[i]?).elim false tb) xs.length) ?_ ?_
  · intro i hi D W' C s2 v k2 kv2 ok2 hD hDB _ _ hbd2 hld hpi
    have hyx : xs[i]? = some xs[i] := List.getElem?_eq_getElem hi
    have hp : (Pf xs[i]).p v (Vw W' s2.heap) := by
      have : nth (xs.map Pf) i = Pf xs[i] := by unfold nth; simp [List.getD_eq_getElem?_getD, hi]
      rw [this] at hpi; exact hpi
    obtain ⟨T1, T2⟩ := T xs[i] (List.getElem_mem hi) W' C s2 v (kps_trans k₁ k2) ((vw_mono (kps_kp k₁)).trans kv2) ok2 hbd2 hp
    refine ⟨fun E Q hQ => ?_, fun hb s3 k3 ⟨ys, hpl, r⟩ ⟨mC, hnC⟩ hbd hCW hDC' E Q hQ => ?_⟩
    · simp only [hyx, Option.elim] at hQ
      exact wpAny_tests_one (T1 s2 (kps_refl s2) ok2 E Q fun s' k' => hQ s' k')
    · simp only [hyx, Option.elim] at hb
      refine wpAny_bind (wpAny_bind (T2 hb s3 k3 (ok2.mono (kps_kp k3)) _ _ fun u s4 k4 hu => ?_))
      have mu : Mu W' D (tup (fun i => (xs[i]?).elim AnyV Po) (fun i => (xs[i]?).elim false tb) i) s4.heap := Mu.mono ⟨ys, hpl, r⟩ (kps_kp k4)
      refine wpAny_bind (call_append hD mu hu (Nat.le_trans (tup_length _ _ _) (Nat.le_trans (Nat.le_of_lt hi) hn)) fun s5 now => wpAny_pure (wpAny_pure (hQ s5 (kb_mono (by simp) (kb_trans (kb_of k4) now.kb)) ⟨mC, (hnC.keeps (kps_kp k4)).at' (kb_get now.kb (by simpa using Ne.symm hDC'))⟩ ⟨_, ((tgc C).keep (fun o q => kb_get now.kb (by simpa using Ne.symm hDB) _ (kps_kp k4 _ _ q)) hbd)⟩ ?_)))
      obtain ⟨zs, hz, rz⟩ := now.mu
      refine ⟨zs, hz, ?_⟩
      rw [tup_succ]
      simpa [hyx, hb] using rz
  · intro Dd C h' tk hD hC hDC ⟨m', hnC⟩ ⟨ys, hpl, hV⟩ hk hCb hDb
    have hLt : @LT.lt Nat _ env.locals s₁.heap.objs.size := by obtain ⟨o, _, _, ho, _⟩ := F1.ns; exact Heap.lt_size ho
    have hLC : env.locals ≠ C := Nat.ne_of_lt (Nat.lt_of_lt_of_le hLt hC)
    have hLD : env.locals ≠ Dd := Nat.ne_of_lt (Nat.lt_of_lt_of_le hLt hD)
    have hp : (env.scope.kind == .class || (env.scope.kind == .module && env.locals != env.globals)) = false := by rw [F.fn]; rfl
    show wpAny _ A (assign (.Name y py) env (.ref Dd)) _ _ _
    refine wpAny_assign_Name (wpAny_storeName_local hy (F1.ns.keeps hk) (fun h₂ hn₂ hs₂ => ?_) hp)
    refine ⟨m', hnC.sameBut hs₂ (Ne.symm hLC), fun h₃ hs₃ => ?_⟩
    dsimp only at hs₂ hs₃ hn₂ ⊢
    have keep : ∀ b o, b ≠ env.locals → b ≠ C → h'.get? b = some o → h₃.get? b = some o := fun b o hb hc e => hs₃.extBut b o hc (hs₂.extBut b o hb e)
    have keep1 : ∀ b o, b ≠ env.locals → s₁.heap.get? b = some o → h₃.get? b = some o := fun b o hb e => keep b o hb (by rintro rfl; rw [get_size_none _ hC] at e; cases e) (hk b o e)
    have hWD : Dd ∉ W := F1.ok.fresh hD
    refine h _ _ ⟨?_, hn₂.sameBut hs₃ hLC, fun b o e => ?_, F.off, fun n c hc => ?_, F1.apart, F1.above, ?_, F.own, F.fn⟩ (kb_trans (kb_of k₁) ⟨h₃, _, rfl, fun b o e => keep1 b o (by simpa using (vw_of e).2) (vw_of e).1⟩) ⟨Dd, _, ys, rfl, vw_to (keep _ _ (Ne.symm hLD) hDC hpl.choose_spec) hWD, ?_⟩
    · obtain ⟨h₁, tk, e⟩ := F1.same
      exact ⟨h₃, _, by rw [e]⟩
    · exact keep1 b o (F.ne (mem_own_loc _) e) (F1.keep b o e)
    · have hcc := F1.cell n c hc
      obtain ⟨o, ho, hd⟩ := hcc
      exact ⟨o, keep1 c o (Nat.ne_of_gt (F1.above n c (mem_of_lookup hc))) ho, hd⟩
    · intro b hb
      obtain ⟨c, o, l, e⟩ := F1.ok b hb
      by_cases q : c = env.locals
      · obtain ⟨o', _, _, e', _⟩ := hn₂.sameBut hs₃ hLC
        exact ⟨c, o', l, by rw [q]; exact e'⟩
      · exact ⟨c, o, l, keep1 c o q e⟩
    · rw [tup1] at hV
      refine hV.mono fun b o e => ?_
      obtain ⟨e1, e2⟩ := vw_of e
      by_cases q : b = env.locals
      · exact absurd (by rw [q]; exact .tail _ (.tail _ (.tail _ (.tail _ F.loc)))) e2
      · exact vw_to (keep b o q (fun z => e2 (by simp [z])) e1) fun z => e2 (by simp [z])

/-! ## dicts -/
theorem value_at {h : Heap} : ∀ {kvs : List (Str × VP)} {ps : List (Str × Value)}, ps.map Prod.fst = kvs.map Prod.fst → VAll h (kvs.map Prod.snd) (ps.map Prod.snd) → ∀ {k : Str} {P : VP}, kvs.find? (fun z => z.1 = k) = some (k, P) → ∃ v, valueAt ps k = some v ∧ P.p v h
  | [], [], _, _, k, P, e => by simp at e
  | (k0, P0) :: kvs, (k1, v1) :: ps, hq, .cons a b, k, P, e => by
    simp only [List.map_cons, List.cons.injEq] at hq
    obtain ⟨rfl, hq⟩ := hq
    by_cases z : k1 = k
    · subst z
      simp at e
      subst e
      exact ⟨v1, by simp [valueAt], a⟩
    · have e' : kvs.find? (fun z => z.1 = k) = some (k, P) := by simpa [List.find?_cons, z] using e
      obtain ⟨v, h1, h2⟩ := value_at hq b e'
      exact ⟨v, by simpa [valueAt, List.find?_cons, z] using h1, h2⟩
theorem sub_dict {kvs : List (Str × VP)} {k : Str} (hk : kvs.find? (fun z => z.1 = k) = some (k, P)) (o v : Value) (s : Shared) (ho : (DcV prog w kvs).p o (Vw W s.heap)) (hv : (D (.str k)).p v (Vw W s.heap)) :
    (∃ T, Plainly T o s) ∧ Ev prog w W A (getItem o v) P s := by
  obtain ⟨d, ps, rfl, g, q, r⟩ := ho
  obtain ⟨t, rfl⟩ := d_str hv
  have g' : s.heap.DictOf (strKind prog w) d ps := g.at fun o e => (vw_of e).1
  obtain ⟨u, e1, e2⟩ := value_at q r hk
  exact ⟨⟨"dict", ⟨_, PySem.F.slot_dict_getitem.lookup⟩, g'.typeIs⟩, fun _ E Q hQ => wpAny_getItem_of (knd := strKind prog w) (k := k) (by simp [PySem.strKind, Value.isStrOf]) g'.mapOf e1 (hQ _ _ kps_tok e2)⟩

theorem dict_step {D : Addr} {W' : List Addr} {Ko : Nat → Str} {Po : Nat → VP} {i : Nat} {kv vv : Value} (hD : D ∈ W') (hac : AcD prog w Ko Po D W' i s.heap) (hk : (Mine.D (.str (Ko i))).p kv (Vw W' s.heap)) (hv : (Po i).p vv (Vw W' s.heap)) (hnew : Ko i ∉ tup Ko (fun _ => true) i) (hi : i ≤ sizeLine)
    {Q : Unit → Shared → Prop} {E : Value → Shared → Prop} (hQ : ∀ s', KB [D] s s' → AcD prog w Ko Po D W' (i + 1) s'.heap → Q () s') : wpAny (model prog w) A (dictSet D kv vv) Q E s := by
  obtain ⟨ps, g, q, r⟩ := hac
  obtain ⟨t, rfl⟩ := d_str hk
  have hlen : ps.length ≤ sizeLine := by
    have e1 : (ps.map Prod.fst).length ≤ i := by rw [q]; exact tup_length _ _ _
    rw [List.length_map] at e1
    exact Nat.le_trans e1 hi
  refine wpAny_dictSet_pairs (knd := strKind prog w) (k := Ko i) (hsz := hlen) (by simp [PySem.strKind, Value.isStrOf]) g fun h' g' hs => ?_
  have kb : KB [D] s { s with heap := h', toks := s.toks + 1 } := ⟨h', _, rfl, fun b o e => hs.extBut b o (by simpa using (vw_of e).2) (vw_of e).1⟩
  have kv : Kp (Vw W' s.heap) (Vw W' h') := kb_vw (by simpa using hD) kb
  have hst : stored ps (Ko i) vv = ps ++ [(Ko i, vv)] := by
    unfold stored
    rw [if_neg]
    intro hany
    rw [List.any_eq_true] at hany
    obtain ⟨z, hz, e⟩ := hany
    refine hnew ?_
    rw [← q]
    exact List.mem_map.mpr ⟨z, hz, by simpa using e⟩
  rw [hst] at g'
  refine hQ _ kb ⟨_, g', by rw [tup_succ, List.map_append, q]; simp, ?_⟩
  rw [tup_succ, List.map_append]
  exact VAll.append (r.mono kv) (by simpa using VAll.cons ((Po i).mono kv hv) .nil)
end
end Mine
set_option maxRecDepth 100000
set_option linter.unusedVariables false
namespace Mine
open PySem PySem.Spec PySem.Calls PyProof.Rows PySem.W PySem.MeetsSeq

section
variable {prog : Program} {w : World} {W : List Addr} {A : Around} {env : Env} {s₀ s : Shared} {pos p px px' : Pos} {x x' : Str} {α β : Type}

theorem start1 {elt target iter target' iter' : Expr} {ifs ifs' : List Expr} {rest : List Comprehension} {scope : Scope} {it acc : Value} {cenv : Env} {R : Result → Shared → Prop}
    (h0 : codeAny (model prog w) A (.compLoop (.ListComp elt (⟨target, iter, ifs, 0⟩ :: ⟨target', iter', ifs', 0⟩ :: rest) scope pos) 1 it acc cenv) R s)
    (h : ∀ E, wpAny (model prog w) A (pyIter it) (fun it' s' => codeAny (model prog w) A (.compLoop (.ListComp elt (⟨target, iter, ifs, 0⟩ :: ⟨target', iter', ifs', 0⟩ :: rest) scope pos) 1 it' acc cenv) R s') E s) :
    codeAny (model prog w) A (.compStart (.ListComp elt (⟨target, iter, ifs, 0⟩ :: ⟨target', iter', ifs', 0⟩ :: rest) scope pos) 1 it acc cenv) R s := by
  refine codeAny_of_tree ?_
  show wpAny _ _ ((compStart (.ListComp elt (⟨target, iter, ifs, 0⟩ :: ⟨target', iter', ifs', 0⟩ :: rest) scope pos) 1 it acc cenv).onRaise (fun x => do noteFrame x cenv; standAt theWindowsPlace)) _ _ s
  refine wpAny_notedAt ?_
  unfold compStart
  show wpAny _ _ (ask >>= _) _ _ s
  refine wpAny_bind (wpAny_askSetting (wpAny_ite ?_))
  split
  · first
      | exact wpAny_bind (wpAny_pure (wpAny_pure (And.intro rfl h0)))
      | exact wpAny_pure (And.intro rfl h0)
  · first
      | exact wpAny_bind (wpAny_rule (wpAny_bind (wpAny_standAt (wpAny_bind (wpAny_mono (h _) (fun it' s' h' => wpAny_pure (And.intro rfl h')) fun _ _ x => x)))))
      | (refine wpAny_bind (wpAny_rule ?_); show wpAny _ _ (standAt iter'.pos >>= _) _ _ s; exact wpAny_bind (wpAny_standAt (wpAny_bind (wpAny_mono (h _) (fun it' s' h' => wpAny_pure (And.intro rfl h')) fun _ _ x => x))))

def pre2 (xs : List α) (zs : α → List β) (Po : α → β → VP) (i : Nat) : List VP := (xs.take i).flatMap fun y => (zs y).map (Po y)
theorem pre2_succ {xs : List α} {zs : α → List β} {Po : α → β → VP} {i : Nat} (h : i < xs.length) : pre2 xs zs Po (i + 1) = pre2 xs zs Po i ++ (zs xs[i]).map (Po xs[i]) := by
  unfold pre2
  rw [List.take_succ_eq_append_getElem h, List.flatMap_append]
  simp
theorem pre2_length (xs : List α) (zs : α → List β) (Po : α → β → VP) : (pre2 xs zs Po xs.length).length = (xs.flatMap zs).length := by
  unfold pre2
  rw [List.take_length, List.length_flatMap, List.length_flatMap]
  simp

theorem pe_lc2 {elt iter iter' : Expr} {scope : Scope} {cl : List (Str × Addr)} {Pit : VP} {Pf : α → VP} {Pg Po : α → β → VP} (xs : List α) (zs : α → List β)
    (hiter : PE prog w W A env s₀ iter Pit) (hsrc : ∀ v s, Keeps s₀ s → Pit.p v (Vw W s.heap) → Srcs prog w W A v s (xs.map Pf)) (hn : (xs.flatMap zs).length ≤ sizeLine)
    (T1 : ∀ y ∈ xs, ∀ (W' : List Addr) (C : Addr) (s : Shared), Keeps s₀ s → Kp (Vw W s₀.heap) (Vw W' s.heap) → WOK W' s.heap → Ld prog w W' A (compEnvC scope cl C env) s x (Pf y) →
      ∃ Pit', PE prog w W' A (compEnvC scope cl C env) s iter' Pit' ∧ ∀ v s', Keeps s s' → Pit'.p v (Vw W' s'.heap) → ∀ X, (∀ b ∈ X, b ∈ W') → SrcX prog w W' X A v s' ((zs y).map (Pg y)))
    (T2 : ∀ y ∈ xs, ∀ z ∈ zs y, ∀ (W' : List Addr) (C : Addr) (s : Shared), Keeps s₀ s → Kp (Vw W s₀.heap) (Vw W' s.heap) → WOK W' s.heap → Ld prog w W' A (compEnvC scope cl C env) s x (Pf y) → Ld prog w W' A (compEnvC scope cl C env) s x' (Pg y z) →
      PE prog w W' A (compEnvC scope cl C env) s elt (Po y z))
    (hxx : x' ≠ x := by decide)
    (hclos : closureFor scope env = pure cl := by rfl) (hcell : ∀ y ∈ scope.names, y.2 ≠ .cell := by decide) (hkind : scope.kind = .function := by rfl)
    (hnames : ∀ y ∈ scope.names, y.2 = .local → scope.names.lookup y.1 = some .local := by decide) (hx : scope.names.lookup x = some .local := by rfl) (hx' : scope.names.lookup x' = some .local := by rfl)
    (hs : ∀ x, foldedSetIterable iter env x = pure x := by intro _; rfl) (hs' : ∀ C x, foldedSetIterable iter' (compEnvC scope cl C env) x = pure x := by intro _ _; rfl) :
    PE prog w W A env s₀ (.ListComp elt [⟨.Name x px, iter, [], 0⟩, ⟨.Name x' px', iter', [], 0⟩] scope pos) (LsV (xs.flatMap fun y => (zs y).map (Po y))) := by
  intro s k hw E Q hQ
  rw [eval_ListComp]
  refine wpAny_comprehension_free (use := none) rfl hs hclos hkind hnames (hiter s k hw E _ fun xv s₁ k₁ hv => hsrc xv s₁ (kps_trans k k₁) hv (hw.mono (kps_kp k₁)) E _ fun o fp St Wk hst hfp _ _ => ?_)
  rw [List.length_map] at Wk
  have hxk : ∀ C, (compEnvC scope cl C env).kindOf x = some .local := fun C => lookup_relabel_local hx
  have hxk' : ∀ C, (compEnvC scope cl C env).kindOf x' = some .local := fun C => lookup_relabel_local hx'
  have hp : ∀ C, ((compEnvC scope cl C env).scope.kind == .class || ((compEnvC scope cl C env).scope.kind == .module && (compEnvC scope cl C env).locals != (compEnvC scope cl C env).globals)) = false := fun C => by simp [compEnvC, relabel, hkind]
  have hfk : ∀ C, (compEnvC scope cl C env).scope.kind = .function := fun C => by simp [compEnvC, relabel, hkind]
  refine comp_one (RR := fun acc C => compPost (model prog w) A E none Q acc C) (oA := { cls := .type "list", data := .seq ([] : List Value).toArray }) (p := iter.pos)
    (fin := fun I D C => do
        let y ← eval iter' (compEnvC scope cl C env)
        standAt iter'.pos
        let y ← foldedSetIterable iter' (compEnvC scope cl C env) y
        let _ ← runOwn (.compStart (.ListComp elt [⟨.Name x px, iter, [], 0⟩, ⟨.Name x' px', iter', [], 0⟩] scope pos) 1 (← holding [y] (pyIter y)) (.ref D) (compEnvC scope cl C env)) (compEnvC scope cl C env)
        again (.compLoop (.ListComp elt [⟨.Name x px, iter, [], 0⟩, ⟨.Name x' px', iter', [], 0⟩] scope pos) 0 (.ref I) (.ref D) (compEnvC scope cl C env)))
    (cv := fun C => compEnvC scope cl C env) (tb := fun _ => true) (ifs := []) (b0 := id) (Bd := fun C v h => ∃ m, h.Ns C m ∧ m x = some v)
    (Ac := fun D W' i h => ∃ ys, h.PlainList D ys ∧ VAll (Vw W' h) (pre2 xs zs Po i) ys.toList)
    Wk hst hfp (hw.mono (kps_kp k₁)) (fun s E Q h => wpAny_newObj_type h) rfl (newEnv_local hcell hkind) (fun _ => rfl) (fun C => tg_local (cenv := compEnvC scope cl C env) (hfk C) (hxk C)) (fun C => Nat.le_refl _) (fun C h _ q => q) (fun _ _ _ => rfl) (fun _ _ _ => rfl) (fun _ _ _ => rfl) (fun _ _ _ => rfl) (fun I D C R s h1 h2 => codeAny_compStart_list h1 (h2 _))
    ⟨fun e => ⟨_, ⟨_, e⟩, by simpa [pre2] using VAll.nil⟩, fun ⟨ys, ⟨q, e⟩, r⟩ k kv => ⟨ys, ⟨q, k _ e⟩, r.mono kv⟩, fun ⟨ys, ⟨q, e⟩, r⟩ => ⟨_, e⟩, fun hb => nomatch hb⟩ ?_ ?_
  · intro i hi D W' C s2 v k2 kv2 ok2 hD hDB hD0 hC0 _ hld hpi
    have hyx : xs[i]? = some xs[i] := List.getElem?_eq_getElem hi
    have hp' : (Pf xs[i]).p v (Vw W' s2.heap) := by
      have : nth (xs.map Pf) i = Pf xs[i] := by unfold nth; simp [List.getD_eq_getElem?_getD, hi]
      rw [this] at hpi; exact hpi
    have k02 := kps_trans (kps_trans k k₁) k2
    have kv02 := (vw_mono (kps_kp (kps_trans k k₁))).trans kv2
    refine ⟨fun E Q hQ => wpAny_pure (hQ s2 (kps_refl s2)), fun hb s3 k3 ⟨ys, hpl, r⟩ ⟨mC, hnC⟩ ⟨mB, hnB, hmB⟩ hCW hDC E Q hQ => ?_⟩
    obtain ⟨Pit', P1, P2⟩ := T1 xs[i] (List.getElem_mem hi) W' C s2 k02 kv02 ok2 (hld _ hp')
    have ok3 := ok2.mono (kps_kp k3)
    refine wpAny_bind (P1 s3 k3 ok3 E _ fun u s4 k4 hu => wpAny_bind (wpAny_standAt (wpAny_bind (wpAny_of_eq (hs' C u) (wpAny_bind (wpAny_holding ?_))))))
    refine P2 u s4 (kps_trans k3 k4) hu [D, C] (by simp [hD, hCW]) (ok3.mono (kps_kp k4)) E _ fun oJ fp' St' Wk' hst' hfp' hfX hlive => ?_
    rw [List.length_map] at Wk'
    have ok4 := ok3.mono (kps_kp k4)
    have hpl4 : s4.heap.PlainList D ys := hpl.at fun o => kps_kp k4 _ o
    have hnB4 : s4.heap.Ns C mB := hnB.keeps (kps_kp k4)
    have r4 := r.mono (vw_mono (W := W') (kps_kp k4))
    have hJ4 : s4.heap.get? s4.heap.objs.size = none := get_size_none _ (Nat.le_refl _)
    have hJW : s4.heap.objs.size ∉ W' := ok4.not_mem
    have k04 := kps_trans k02 (kps_trans k3 k4)
    have k14 := kps_trans k2 (kps_trans k3 k4)
    have kv04 := kv02.trans (vw_mono (W := W') (kps_kp (kps_trans k3 k4)))
    generalize hJ : s4.heap.objs.size = J at *
    have hJD : J ≠ D := fun q => hJW (q ▸ hD)
    have hJC : J ≠ C := fun q => hJW (q ▸ hCW)
    let s5 : Shared := { s4 with heap := s4.heap.push oJ }
    have k45 : Keeps s4 s5 := kps_push
    have kv45 : Kp (Vw W' s4.heap) (Vw (J :: W') s5.heap) := kv_hide (vw_mono (kps_kp k45)) hJ4
    have hDo : s₀.heap.get? D = none := none_of (kps_kp (kps_trans k k₁)) hD0
    have hCo : s₀.heap.get? C = none := none_of (kps_kp (kps_trans k k₁)) hC0
    have hJo : s₀.heap.get? J = none := none_of (kps_kp k04) hJ4
    have kp3 : ∀ h : Heap, Kp (Vw [J, D, C] s5.heap) h → Kp s₀.heap h := fun h kk b o q => kk b o (vw_to (kps_kp (kps_trans k04 k45) b o q) fun m => by
      rcases List.mem_cons.mp m with rfl | m
      · rw [hJo] at q; cases q
      rcases List.mem_cons.mp m with rfl | m
      · rw [hDo] at q; cases q
      rw [List.mem_singleton.mp m, hCo] at q; cases q)
    have hmark : A.mark none = A := by cases A; rfl
    refine wpAny_bind (wpAny_runOwn ?_)
    rw [hmark]
    have hVx : ∀ (m : Str → Option Value) (h : Heap) (s6 : Shared), m x = some v → s6.heap.Ns C m → Kp (Vw W' s4.heap) (Vw (J :: W') s6.heap) → Ld prog w (J :: W') A (compEnvC scope cl C env) s6 x (Pf xs[i]) := fun m h s6 hm hn kv s7 k7 _ E Q hQ =>
      wpAny_loadName_local (hfk C) (hxk C) (hn.keeps (kps_kp k7)) hm (hQ _ _ (kps_refl _) ((Pf xs[i]).mono ((vw_mono (kps_kp (kps_trans k3 k4))).trans (kv.trans (vw_mono (kps_kp k7)))) hp'))
    have loop : codeAny (model prog w) A (.compLoop (.ListComp elt [⟨.Name x px, iter, [], 0⟩, ⟨.Name x' px', iter', [], 0⟩] scope pos) 1 (.ref J) (.ref D) (compEnvC scope cl C env))
        (fun r s' => match r with | .ok f => wpAny (model prog w) A (again (.compLoop (.ListComp elt [⟨.Name x px, iter, [], 0⟩, ⟨.Name x' px', iter', [], 0⟩] scope pos) 0 (.ref s₁.heap.objs.size) (.ref D) (compEnvC scope cl C env))) Q E s' | .error e => cameBackBy (model prog w) A (compEnvC scope cl C env) E e s') s5 := by
      refine comp_level (x := x') (px := px') (p := iter'.pos) (ifs := []) (fin := (do let _ ← call (.builtin "list.append") [.ref D, ← eval elt (compEnvC scope cl C env)]) >>= fun _ => again (.compLoop (.ListComp elt [⟨.Name x px, iter, [], 0⟩, ⟨.Name x' px', iter', [], 0⟩] scope pos) 1 (.ref J) (.ref D) (compEnvC scope cl C env))) rfl Wk'
        (fun j s6 => KB [J, D, C] s5 s6 ∧ (∃ m, s6.heap.Ns C m ∧ m x = some v) ∧ ∃ ys, s6.heap.PlainList D ys ∧ VAll (Vw (J :: W') s6.heap) (pre2 xs zs Po i ++ ((zs xs[i]).take j).map (Po xs[i])) ys.toList) ?_ ?_ ?_
        ⟨kb_of (kps_refl _), ⟨mB, hnB4.keeps (kps_kp k45), hmB⟩, ys, hpl4.at (fun o => kps_kp k45 _ o), by simpa using r4.mono kv45⟩ hst' rfl rfl rfl
      · rintro j s6 h' tk' ⟨q1, ⟨m, q2, q3⟩, zs', q4, q5⟩ hk'
        refine ⟨?_, ⟨m, q2.at' (fun o => hk' _ o (Ne.symm hJC)), q3⟩, zs', q4.at (fun o => hk' _ o (Ne.symm hJD)), q5.mono fun b o e => ?_⟩
        · obtain ⟨g, t, rfl, kk⟩ := q1
          exact ⟨h', tk', rfl, fun b o e => hk' b o (fun z => (vw_of e).2 (by simp [z])) (kk b o e)⟩
        · exact vw_to (hk' b o (fun z => (vw_of e).2 (by simp [z])) (vw_of e).1) (vw_of e).2
      · rintro j u6 s6 hj ⟨q1, ⟨m, q2, q3⟩, zs', q4, q5⟩ hP hst6 E6
        have hjz : j < (zs xs[i]).length := hj
        have hPz : (Pg xs[i] (zs xs[i])[j]).p u6 (Vw W' s4.heap) := by
          have : nth ((zs xs[i]).map (Pg xs[i])) j = Pg xs[i] (zs xs[i])[j] := by unfold nth; simp [List.getD_eq_getElem?_getD, hjz]
          rw [this] at hP; exact hP
        refine wpAny_assign_Name (wpAny_storeName_local (hxk' C) q2 (fun h₂ hn₂ hs₂ => ?_) (hp C))
        have hup : ∀ b o, b ≠ C → s6.heap.get? b = some o → h₂.get? b = some o := fun b o hb e => hs₂.extBut b o hb e
        have kb5 : KB [J, D, C] s5 { s6 with heap := h₂, toks := s6.toks + 1 } := by
          obtain ⟨g, t, rfl, kk⟩ := q1
          exact ⟨h₂, _, rfl, fun b o e => hup b o (fun z => (vw_of e).2 (by simp [z])) (kk b o e)⟩
        have ks0 : Keeps s₀ { s6 with heap := h₂, toks := s6.toks + 1 } := by
          obtain ⟨g, t, e1, kk⟩ := kb5
          obtain ⟨g0, t0, e0, _⟩ := kps_trans k04 k45
          refine ⟨g, t, by rw [e1, e0], kp3 _ kk⟩
        have kv6 : Kp (Vw W' s4.heap) (Vw (J :: W') h₂) := fun b o e => by
          obtain ⟨e1, e2⟩ := vw_of (kv45 b o e)
          refine vw_to (kb_kp kb5 b o (vw_to e1 fun z => ?_)) e2
          rcases List.mem_cons.mp z with rfl | z
          · exact e2 (.head _)
          rcases List.mem_cons.mp z with rfl | z
          · exact e2 (.tail _ hD)
          rw [List.mem_singleton.mp z] at e2
          exact e2 (.tail _ hCW)
        have hpl2 : h₂.PlainList D zs' := q4.at fun o => hup _ o hDC
        have r2 : VAll (Vw (J :: W') h₂) (pre2 xs zs Po i ++ ((zs xs[i]).take j).map (Po xs[i])) zs'.toList := q5.mono fun b o e => vw_to (hup b o (fun z => (vw_of e).2 (by rw [z]; exact .tail _ hCW)) (vw_of e).1) (vw_of e).2
        have ok6 : WOK (J :: W') h₂ := by
          obtain ⟨oJ', eJ, _⟩ := hlive _ _ hst6
          have eJ2 : h₂.get? J = some oJ' := hup J oJ' hJC eJ
          refine WOK.cons (fun b hb => ?_) eJ2
          obtain ⟨c, o, l, e⟩ := ok4 b hb
          exact ⟨J, oJ', Nat.le_trans l (Nat.le_of_lt (hJ ▸ Heap.lt_size e)), eJ2⟩
        have hmx : (fun y => if y = x' then some u6 else m y) x = some v := by simp [Ne.symm hxx, q3]
        refine wpAny_pure ?_
        simp only [if_true]
        refine wpAny_bind (wpAny_bind (T2 xs[i] (List.getElem_mem hi) (zs xs[i])[j] (List.getElem_mem hjz) (J :: W') C _ ks0 (kv04.trans kv6) ok6 (hVx _ h₂ _ hmx hn₂ kv6) (fun s7 k7 _ E Q hQ =>
          wpAny_loadName_local (hfk C) (hxk' C) (hn₂.keeps (kps_kp k7)) (by simp) (hQ _ _ (kps_refl _) ((Pg xs[i] (zs xs[i])[j]).mono (kv6.trans (vw_mono (kps_kp k7))) hPz))) _ (kps_refl _) ok6 _ _ fun y7 s7 k7 hy7 => ?_))
        have mu : Mu (J :: W') D (pre2 xs zs Po i ++ ((zs xs[i]).take j).map (Po xs[i])) s7.heap := Mu.mono ⟨zs', hpl2, r2⟩ (kps_kp k7)
        have hlen : (pre2 xs zs Po i ++ ((zs xs[i]).take j).map (Po xs[i])).length ≤ sizeLine := by
          refine Nat.le_trans ?_ hn
          have e1 : (pre2 xs zs Po (i + 1)).length ≤ (xs.flatMap zs).length := by
            rw [← pre2_length xs zs Po]
            unfold pre2
            rw [← List.take_append_drop (i + 1) xs, List.take_append_drop]
            have : (xs.take xs.length) = xs.take (i + 1) ++ xs.drop (i + 1) := by rw [List.take_length, List.take_append_drop]
            rw [this, List.flatMap_append, List.length_append]
            exact Nat.le_add_right _ _
          rw [pre2_succ hi, List.length_append] at e1
          rw [List.length_append, List.length_map, List.length_take]
          rw [List.length_map] at e1
          omega
        refine wpAny_bind (call_append (.tail _ hD) mu hy7 hlen fun s8 now => wpAny_pure (wpAny_pure ⟨rfl, ⟨?_, ⟨_, (hn₂.keeps (kps_kp k7)).at' (kb_get now.kb fun z => hDC (List.mem_singleton.mp z).symm), hmx⟩, ?_⟩, fun b hb o e => ?_⟩))
        · exact kb_trans kb5 (kb_mono (by simp) (kb_trans (kb_of k7) now.kb))
        · obtain ⟨ws, hw1, hw2⟩ := now.mu
          refine ⟨ws, hw1, ?_⟩
          rw [List.take_succ_eq_append_getElem hjz, List.map_append, ← List.append_assoc]
          exact hw2
        · exact kb_get now.kb (by simpa using fun z => hfX b hb (by simp [z])) o (kps_kp k7 _ _ (hup b o (fun z => hfX b hb (by simp [z])) e))
      · rintro s6 ⟨q1, ⟨m, q2, q3⟩, zs', q4, q5⟩
        refine wpAny_pure (hQ s6 ?_ ⟨m, q2⟩ ⟨m, q2⟩ ⟨zs', q4, ?_⟩)
        · obtain ⟨g, t, e1, kk⟩ := q1
          obtain ⟨g4, t4, e4, kk4⟩ := kps_trans k4 k45
          refine ⟨g, t, by rw [e1, e4], fun b o e => kk b o (vw_to ?_ fun z => ?_)⟩
          · have := kk4 b o (vw_of e).1
            rw [e4]; exact this
          · rcases List.mem_cons.mp z with rfl | z
            · have := kps_kp k4 _ _ (vw_of e).1
              rw [hJ4] at this; cases this
            · exact (vw_of e).2 z
        · rw [pre2_succ hi]
          rw [List.take_length] at q5
          exact q5.mono (vw_sub fun b hb => .tail _ hb)
    exact start1 loop fun E => Wk'.self 0 _ _ _ hst' loop
  · intro Dd C h' tk hD hC hDC ⟨m', hns⟩ ⟨ys, hpl, hV⟩ hk hCb hDb
    refine ⟨m', hns, fun h'' hs'' => ?_⟩
    have k2 : Kp s₁.heap h'' := fun b o e => hs''.extBut b o (by rintro rfl; rw [get_size_none _ hC] at e; cases e) (hk b o e)
    have hw' : WOK W s₁.heap := hw.mono (kps_kp k₁)
    have hpre : pre2 xs zs Po xs.length = xs.flatMap fun y => (zs y).map (Po y) := by unfold pre2; rw [List.take_length]
    rw [hpre] at hV
    refine hQ _ _ (kps_trans k₁ (kps_mk k2)) ⟨Dd, _, ys, rfl, vw_to (hpl.extBut hs''.extBut hDC).choose_spec (hw'.fresh hD), hV.mono fun b o e => ?_⟩
    obtain ⟨e1, e2⟩ := vw_of e
    exact vw_to (hs''.extBut b o (fun q => e2 (by simp [q])) e1) fun q => e2 (by simp [q])
end
end Mine
set_option maxRecDepth 100000
set_option maxHeartbeats 4000000
set_option linter.unusedVariables false
namespace Mine
open PySem PySem.Spec PySem.Calls PyProof.Rows PySem.W
section
variable {prog : Program} {w : World} {W : List Addr} {A : Around} {env : Env} {s₀ s : Shared} {mg mb : Str → Option Value} {v v' : Value}
theorem posts_ok {c n : Nat} (R : Room A 1) (hW : Wd (KK w) mg mb s.heap) (h1 : (D (.int (c : Int))).p v (Vw W s.heap)) (h2 : (D (.int (n : Int))).p v' (Vw W s.heap)) (hn : n ≤ 5) :
    Ev prog w W A (call (.ref 205) [v, v']) (FL .str (postsOf c n)) s := by
  refine ev_call (K := KK w) R hW rfl rfl rfl rfl rfl rfl rfl rfl rfl rfl ?_
  intro L env A' W' s₁ he hA' R' hL hW' F kv
  clear hA' hW' R
  subst he
  have k1 := VP.mono _ kv h1
  have k2 := VP.mono _ kv h2
  have hW1 := hW.mono (kps_kp F.done)
  have hs : n ≤ sizeLine := by rw [sizeLine_eq]; omega
  refine st_return F (P := FL .str (postsOf c n)) ?_ fun v s' F' k hp => ⟨F'.done, hp⟩
  show PE prog w W' A' _ s₁ _ (LsV ((postsOf c n).map fun x => D (.str x)))
  unfold postsOf
  rw [List.map_map]
  refine pe_lc0 (List.range n) (Pit := RangeV 0 (n : Nat) 1) (Pf := fun i : Nat => D (.int (i : Int))) ?_ (fun v s _ h => srcs_upto R'.hd hs h) (by rw [List.length_range]; exact hs) ?_
  · exact pe_call_type (pe_built hW1 rfl boot_range) (pes_cons (pe_name (ld_local F rfl k2)) pes_nil) (fun vs s k h => call_upto vs s h)
  · intro i hi W2 C s k kv2 hok hx
    have hi' : i < n := List.mem_range.mp hi
    have hb : (Builtin.Int.intBits ((6 : Nat) : Int) : Int) * (i : Nat) ≤ 2 ^ 27 := by
      have : (Builtin.Int.intBits ((6 : Nat) : Int) : Int) = 3 := by decide +kernel
      rw [this]; omega
    have h6 : 6 ^ i < 1073741824 := Nat.lt_of_le_of_lt (Nat.pow_le_pow_right (by decide) (show i ≤ 5 by omega)) (by decide)
    have hd : c / 6 ^ i % 6 / 2 < 3 := by omega
    refine pe_bin (P1 := D (.str (sign (if i % 2 = 0 then "abc" else "ABC") (c / 6 ^ i % 6 / 2)))) (P2 := D (.str (xy (c / 6 ^ i % 2)))) ?_ ?_ (fun a b s ha hb => op_add_str (by show 1 + 1 ≤ sizeLine; decide) a b s ha hb)
    · refine pe_sub (P1 := D (.str (if i % 2 = 0 then "abc" else "ABC"))) (P2 := D (.int ((c / 6 ^ i % 6 / 2 : Nat) : Int))) ?_ ?_ (sub_str (by split <;> exact hd) (by omega))
      · refine pe_sub (P2 := D (.int ((i % 2 : Nat) : Int))) (pe_tuple (pes_cons pe_str (pes_cons pe_str pes_nil)) (by show 2 ≤ sizeLine; decide)) (pe_bin (pe_name hx) (pe_nat (i := 2)) (op_modN (by decide))) (sub_tuple ?_ (by omega))
        rcases Nat.mod_two_eq_zero_or_one i with h | h <;> rw [h] <;> rfl
      · exact pe_bin (pe_bin (pe_bin (pe_name (ld_free F k kv2 rfl rfl k1)) (pe_bin (pe_nat (i := 6)) (pe_name hx) (op_powN hb)) (op_fdivN (Nat.pow_pos (by decide)) h6)) (pe_nat (i := 6)) (op_modN (by decide))) (pe_nat (i := 2)) (op_fdivN (by decide) (by decide))
    · exact pe_sub pe_str (pe_bin (pe_bin (pe_name (ld_free F k kv2 rfl rfl k1)) (pe_bin (pe_nat (i := 6)) (pe_name hx) (op_powN hb)) (op_fdivN (Nat.pow_pos (by decide)) h6)) (pe_nat (i := 2)) (op_modN (by decide))) (sub_str (Nat.mod_lt _ (by decide)) (by omega))
end
end Mine
set_option maxRecDepth 100000
set_option linter.unusedVariables false
namespace Mine
open PySem PySem.Spec PySem.Calls PyProof.Rows PySem.W PySem.MeetsSeq

section
variable {prog : Program} {w : World} {W : List Addr} {A : Around} {env : Env} {s₀ s : Shared} {P P1 P2 : VP} {pos p px : Pos} {m cm : Str → Option Value} {x : Str} {e : Expr} {rest : List Stmt}

theorem vall_snoc {h : Heap} {Ps : List VP} {vs : List Value} {P : VP} {v : Value} (a : VAll h Ps vs) (b : P.p v h) : VAll h (Ps ++ [P]) (vs ++ [v]) := VAll.append a (.cons b .nil)

/-- all the items, drawn -/
theorem draw_walk {I : Addr} {fp : List Addr} {Ps : List VP} {h0 : Heap} {St : Nat → Heap → Prop} (Wk : Walks prog w A I fp [I] Ps.length (fun i v => (nth Ps i).p v h0) St) :
    ∀ (k i : Nat) (s : Shared) (E : Value → Shared → Prop) (Q : List Value → Shared → Prop), i + k = Ps.length → St i s.heap →
      (∀ vs h' tk, VAll h0 (Ps.drop i) vs → St Ps.length h' → (∀ b o, b ≠ I → s.heap.get? b = some o → h'.get? b = some o) → Q vs { s with heap := h', toks := tk }) → wpAny (model prog w) A (draw (.ref I) k) Q E s
  | 0, i, s, E, Q, hk, hst, hQ => by
    have : i = Ps.length := by omega
    subst this
    exact wpAny_pure (hQ [] s.heap s.toks (by rw [List.drop_length]; exact .nil) hst fun b o _ e => e)
  | k + 1, i, s, E, Q, hk, hst, hQ => by
    have hi : i < Ps.length := by omega
    show wpAny _ _ (pyNext (.ref I) >>= _) Q E s
    refine wpAny_bind (Wk.item i s _ _ hi hst fun v h₁ tk₁ hv hst₁ hk₁ => ?_)
    refine wpAny_bind (wpAny_holding (draw_walk Wk k (i + 1) _ _ _ (by omega) hst₁ fun vs h₂ tk₂ hvs hst₂ hk₂ => wpAny_pure (hQ _ h₂ tk₂ ?_ hst₂ fun b o hb e => hk₂ b o hb (hk₁ b o (by simpa using hb) e))))
    have hd : Ps.drop i = Ps[i] :: Ps.drop (i + 1) := List.drop_eq_getElem_cons hi
    have hn : nth Ps i = Ps[i] := by unfold nth; simp [List.getD_eq_getElem?_getD, hi]
    rw [hd, ← hn]
    exact .cons hv hvs
theorem ev_unpack {Ps : List VP} {v : Value} {T id : String} (hw : WOK W s.heap) (hsrc : Srcs prog w W A v s Ps) (hT : s.TypeIs v T) (hl : typeLookup (.type T) "__iter__" = pure (some (.builtin id)))
    {Q : List Value → Shared → Prop} {E : Value → Shared → Prop} (hQ : ∀ vs s', Keeps s s' → VAll (Vw W s'.heap) Ps vs → Q vs s') : wpAny (model prog w) A (unpackItems v Ps.length none) Q E s := by
  unfold unpackItems
  refine wpAny_bind ?_
  unfold notIterableAtAll
  refine wpAny_bind (wpAny_specialOf hT hl ?_)
  refine wpAny_pure ?_
  simp only [Bool.false_eq_true, if_false]
  refine wpAny_bind (wpAny_holding (hsrc hw E _ fun o fp St Wk hst hfp _ _ => ?_))
  refine wpAny_bind (wpAny_holding (draw_walk Wk Ps.length 0 _ _ _ (by omega) hst fun vs h₁ tk₁ hvs hst₁ hk₁ => ?_))
  rw [List.drop_zero] at hvs
  rw [if_neg (by rw [hvs.length]; exact Nat.lt_irrefl _)]
  refine wpAny_bind (wpAny_holding (Wk.done _ _ _ hst₁ fun h₂ tk₂ hk₂ => ?_))
  simp only [Option.isSome_none, Bool.false_eq_true, if_false]
  have kp : Kp s.heap h₂ := fun b o e => by
    have hb : b ≠ s.heap.objs.size := Nat.ne_of_lt (Heap.lt_size e)
    exact hk₂ b o (by simpa using hb) (hk₁ b o hb (Heap.get?_push_of_some _ e))
  exact wpAny_pure (hQ vs _ (kps_mk kp) (hvs.mono (vw_mono kp)))

theorem ord_cons {t : Value → Sem Unit} {ts : List (Value → Sem Unit)} {x : Value} {xs : List Value} {Q : Unit → Shared → Prop} {E : Value → Shared → Prop} (h : wpAny (model prog w) A (t x) (fun _ s' => wpAny (model prog w) A (assignInOrder ts xs) Q E s') E s) : wpAny (model prog w) A (assignInOrder (t :: ts) (x :: xs)) Q E s :=
  wpAny_bind (wpAny_holding h)
theorem ord_nil {Q : Unit → Shared → Prop} {E : Value → Shared → Prop} (h : Q () s) : wpAny (model prog w) A (assignInOrder [] []) Q E s := wpAny_pure h
theorem st_unpack {elts : List Expr} {k : Nat} {tpos : Pos} {value : Expr} {Pv : VP} {Ps : List VP} {T id : String} {Q : Flow → Shared → Prop} {E : Value → Shared → Prop} (F : Fm env s₀ W m cm s) (hv : PE prog w W A env s value Pv)
    (hsrc : ∀ v s', Keeps s s' → Pv.p v (Vw W s'.heap) → Srcs prog w W A v s' Ps ∧ s'.TypeIs v T) (hl : typeLookup (.type T) "__iter__" = pure (some (.builtin id)))
    (h : ∀ vs s', Fm env s₀ W m cm s' → Keeps s s' → VAll (Vw W s'.heap) Ps vs → wpAny (model prog w) A (assignInOrder ((assignEach elts env).map (·.2)) vs) (fun _ s'' => wpAny (model prog w) A (execs rest env) Q E s'') E s')
    (hn : (assignEach elts env).length = Ps.length := by rfl) (hstar : (assignEach elts env).findIdx? (·.1) = none := by rfl)
    (hs : swapsWithSole [.Tuple elts k tpos] value pos.line env = pure false := by rfl) (hw : swappedStores [.Tuple elts k tpos] value env = pure none := by rfl) :
    wpAny (model prog w) A (execs (.Assign [.Tuple elts k tpos] value pos :: rest) env) Q E s := by
  refine wpAny_execs_cons (PyProof.Rows.Assign_Tuple (hv s (kps_refl s) F.ok E _ fun v s1 k1 hv1 => ?_) hs hw)
  obtain ⟨h1, h2⟩ := hsrc v s1 k1 hv1
  rw [arm_assign_Tuple]
  refine wpAny_bind (wpAny_standAt ?_)
  unfold unpack
  rw [hn, hstar]
  refine wpAny_bind (wpAny_holding (ev_unpack (F.ok.mono (kps_kp k1)) h1 h2 hl fun vs s2 k2 hvs => ?_))
  exact h vs s2 (F.keeps (kps_trans k1 k2)) (kps_trans k1 k2) hvs
theorem typeIs_list {Ps : List VP} {v : Value} (hv : (LsV Ps).p v (Vw W s.heap)) : s.TypeIs v "list" := by
  obtain ⟨a, n, vs, rfl, g, r⟩ := hv
  exact ⟨_, (vw_of g).1, rfl⟩

theorem ld_far {env' : Env} {v : Value} {c : Addr} {W' : List Addr} {s₂ : Shared} (F : Fm env s₀ W m cm s) (k : Keeps s s₂) (kv : Kp (Vw W s.heap) (Vw W' s₂.heap)) (hc : env.cells.lookup x = some c) (hm : cm x = some v) (hp : P.p v (Vw W s.heap))
    (hcl : env'.cells.lookup x = some c := by rfl) (hl : env'.kindOf x = some .cell := by rfl) (hk : env'.scope.kind = .function := by rfl) : Ld prog w W' A env' s₂ x P :=
  fun s' k' _ E Q hQ => wpAny_loadName_cell hk hl hcl (hm ▸ (F.keeps (kps_trans k k')).cell x c hc) (hQ _ _ (kps_refl _) (P.mono (kv.trans (vw_mono (kps_kp k'))) hp))
theorem ld_at {env' : Env} {v : Value} {c : Addr} {s₂ : Shared} (h : s.heap.IsCell c (some v)) (hp : P.p v (Vw W s.heap)) (k : Keeps s s₂) {W' : List Addr} (kv : Kp (Vw W s.heap) (Vw W' s₂.heap))
    (hcl : env'.cells.lookup x = some c := by rfl) (hl : env'.kindOf x = some .cell := by rfl) (hk : env'.scope.kind = .function := by rfl) : Ld prog w W' A env' s₂ x P :=
  fun s' k' _ E Q hQ => wpAny_loadName_cell hk hl hcl (h.keeps (kps_kp (kps_trans k k'))) (hQ _ _ (kps_refl _) (P.mono (kv.trans (vw_mono (kps_kp k'))) hp))
theorem srcx_upto {n : Nat} {v : Value} {X : List Addr} (hX : ∀ b ∈ X, b ∈ W) (hA : A.handled = none) (hn : n ≤ sizeLine) (hv : (RangeV 0 (n : Int) 1).p v (Vw W s.heap)) : SrcX prog w W X A v s ((List.range n).map fun i : Nat => D (.int (i : Int))) := by
  have := srcx_range (prog := prog) (w := w) hX hA (fit_up hn) (size_up _) hv
  simpa using this
theorem call_count_mu {f : Str → PyData} (T : Tells f) {xs : List Str} {y : Str} {a : Addr} (hxs : ∀ x ∈ xs, PyData.strOk x = true) (hy : PyData.strOk y = true) (hu : A.units + 65 < cLine) (x : Mu W a (xs.map fun x => D (f x)) s.heap) (vs : List Value) (hvs : VAll (Vw W s.heap) [D (f y)] vs) :
    Ev prog w W A (call (.builtin "list.count") (.ref a :: vs)) (D (.int (xs.count y : Nat))) s := by
  have h1 : (LsV (xs.map fun x => D (f x))).p (.ref a) (Vw [] s.heap) := x.see (fun b hb => nomatch hb) (fun hb => nomatch hb)
  have := call_count (prog := prog) (w := w) (A := A) T hxs hy hu (.ref a) vs s h1 (hvs.mono (vw_kp _ _))
  exact fun hw E Q hQ => this WOK.nil E Q fun v s' k hv => by
    obtain ⟨t, rfl⟩ := d_int hv
    exact hQ _ _ k (d_ofInt _ _ _)

/-! ## what == tells of data made of strs -/
def Good (n : Nat) (d : PyData) : Prop := d.canLay0 = true ∧ d.depth ≤ n
theorem good_str {x : Str} (h : PyData.strOk x = true) : Good 0 (.str x) := ⟨by simp [PyData.canLay0, h], by simp [PyData.depth]⟩
theorem good_all {n : Nat} : ∀ {ds : List PyData}, (∀ d ∈ ds, Good n d) → PyData.canLayAll0 ds = true ∧ PyData.depthAll ds ≤ n
  | [], _ => ⟨by simp [PyData.canLayAll0], by simp [PyData.depthAll]⟩
  | d :: ds, h => by
    obtain ⟨a, b⟩ := h d (.head _)
    obtain ⟨c, e⟩ := good_all (ds := ds) fun y hy => h y (.tail _ hy)
    refine ⟨by simp [PyData.canLayAll0, a, c], ?_⟩
    simp only [PyData.depthAll]
    omega
theorem good_list {n : Nat} {ds : List PyData} (h : ∀ d ∈ ds, Good n d) : Good (n + 1) (.list ds) := by
  obtain ⟨a, b⟩ := good_all h
  exact ⟨by simp [PyData.canLay0, a], by simp only [PyData.depth]; omega⟩
theorem good_tuple {n : Nat} {ds : List PyData} (h : ∀ d ∈ ds, Good n d) : Good (n + 1) (.tuple ds) := by
  obtain ⟨a, b⟩ := good_all h
  exact ⟨by simp [PyData.canLay0, a], by simp only [PyData.depth]; omega⟩
theorem Good.shaped {n : Nat} {d : PyData} (h : Good n d) (hn : n ≤ 64) : SeqAt.shaped d = true := by
  unfold SeqAt.shaped
  rw [h.1, Bool.true_and]
  exact decide_eq_true (Nat.le_trans h.2 hn)
theorem eqvAll_map {β : Type} [BEq β] {f : β → PyData} (hf : ∀ x y, PyData.eqv (f x) (f y) = (x == y)) : ∀ xs ys : List β, PyData.eqvAll (xs.map f) (ys.map f) = (xs == ys)
  | [], [] => rfl
  | [], _ :: _ => rfl
  | _ :: _, [] => rfl
  | x :: xs, y :: ys => by
    rw [List.map_cons, List.map_cons]
    have := eqvAll_map hf xs ys
    simp [PyData.eqvAll, hf, this]
theorem eqv_list {β : Type} [BEq β] {f : β → PyData} (hf : ∀ x y, PyData.eqv (f x) (f y) = (x == y)) (xs ys : List β) : PyData.eqv (.list (xs.map f)) (.list (ys.map f)) = (xs == ys) := by
  have := eqvAll_map hf xs ys
  simp [PyData.eqv, this]
theorem lsD {β : Type} {f : β → PyData} {xs : List β} {v : Value} {h : Heap} (x : (LsV (xs.map fun y => D (f y))).p v h) : (D (.list (xs.map f))).p v h := by
  refine LsV.toD (ds := xs.map f) ?_
  rw [List.map_map]
  exact x
theorem op_eq_ls {β : Type} [BEq β] {f : β → PyData} {xs ys : List β} {n : Nat} (hf : ∀ x y, PyData.eqv (f x) (f y) = (x == y)) (hx : ∀ x ∈ xs, Good n (f x)) (hy : ∀ x ∈ ys, Good n (f x)) (hn : n + 1 ≤ 64) (hu : A.units + 64 < cLine) (a b : Value) (s : Shared)
    (ha : (LsV (xs.map fun y => D (f y))).p a (Vw W s.heap)) (hb : (LsV (ys.map fun y => D (f y))).p b (Vw W s.heap)) : Ev prog w W A (compareOp .Eq a b) (D (.bool (xs == ys))) s := by
  have gx : Good (n + 1) (.list (xs.map f)) := good_list fun d hd => by obtain ⟨x, h, rfl⟩ := List.mem_map.mp hd; exact hx x h
  have gy : Good (n + 1) (.list (ys.map f)) := good_list fun d hd => by obtain ⟨x, h, rfl⟩ := List.mem_map.mp hd; exact hy x h
  have := op_eq (prog := prog) (w := w) (gx.shaped hn) (gy.shaped hn) hu a b s (lsD ha) (lsD hb)
  rwa [eqv_list hf] at this
theorem op_ne_ls {β : Type} [BEq β] {f : β → PyData} {xs ys : List β} {n : Nat} (hf : ∀ x y, PyData.eqv (f x) (f y) = (x == y)) (hx : ∀ x ∈ xs, Good n (f x)) (hy : ∀ x ∈ ys, Good n (f x)) (hn : n + 1 ≤ 64) (hu : A.units + 64 < cLine) (a b : Value) (s : Shared)
    (ha : (LsV (xs.map fun y => D (f y))).p a (Vw W s.heap)) (hb : (LsV (ys.map fun y => D (f y))).p b (Vw W s.heap)) : Ev prog w W A (compareOp .NotEq a b) (D (.bool (!(xs == ys)))) s := by
  have gx : Good (n + 1) (.list (xs.map f)) := good_list fun d hd => by obtain ⟨x, h, rfl⟩ := List.mem_map.mp hd; exact hx x h
  have gy : Good (n + 1) (.list (ys.map f)) := good_list fun d hd => by obtain ⟨x, h, rfl⟩ := List.mem_map.mp hd; exact hy x h
  have := op_ne (prog := prog) (w := w) (gx.shaped hn) (gy.shaped hn) hu a b s (lsD ha) (lsD hb)
  rwa [eqv_list hf] at this

/-! ## tests -/
theorem pt_not {b : Bool} (h : PT prog w W A env s₀ e b) : PT prog w W A env s₀ (.UnaryOp .Not e pos) (!b) := fun s k hw E Q hQ =>
  wpAny_isTrue_Not (h s k hw E _ fun s' k' => hQ s' k')
theorem pt_bool {b : Bool} (h : PE prog w W A env s₀ e (D (.bool b))) (he : ∀ whole : Sem Value, isTrue e env whole = (do let v ← whole; standAt e.pos; holding [v] (truthy v)) := by intro _; rfl) : PT prog w W A env s₀ e b := fun s k hw E Q hQ =>
  isTrue_plain (h s k hw E _ fun v s1 k1 hv => by rw [d_bool hv]; exact wpAny_truthy_bool (hQ _ k1)) (he _)
theorem pt_or {b c : Bool} {e' : Expr} (h1 : PT prog w W A env s₀ e b) (h2 : PT prog w W A env s₀ e' c) : PT prog w W A env s₀ (.BoolOp .Or [e, e'] pos) (b || c) := by
  intro s k hw E Q hQ
  refine isTrue_or (h1 s k hw E _ fun s1 k1 => ?_)
  cases b with
  | true => exact hQ s1 k1
  | false =>
    simp only [Bool.false_eq_true, if_false]
    refine isTrue_or (h2 s1 (kps_trans k k1) (hw.mono (kps_kp k1)) E _ fun s2 k2 => ?_)
    cases c with
    | true => exact hQ s2 (kps_trans k1 k2)
    | false => exact isTrue_or_nil (hQ s2 (kps_trans k1 k2))
theorem op_eq_str {x y : Str} (hx : PyData.strOk x = true) (hy : PyData.strOk y = true) (hu : A.units + 64 < cLine) (a b : Value) (s : Shared) (ha : (D (.str x)).p a (Vw W s.heap)) (hb : (D (.str y)).p b (Vw W s.heap)) : Ev prog w W A (compareOp .Eq a b) (D (.bool (x == y))) s := by
  have := op_eq (prog := prog) (w := w) (tells_str.shaped x hx) (tells_str.shaped y hy) hu a b s ha hb
  rwa [tells_str.eqv] at this
theorem op_ne_str {x y : Str} (hx : PyData.strOk x = true) (hy : PyData.strOk y = true) (hu : A.units + 64 < cLine) (a b : Value) (s : Shared) (ha : (D (.str x)).p a (Vw W s.heap)) (hb : (D (.str y)).p b (Vw W s.heap)) : Ev prog w W A (compareOp .NotEq a b) (D (.bool (!(x == y)))) s := by
  have := op_ne (prog := prog) (w := w) (tells_str.shaped x hx) (tells_str.shaped y hy) hu a b s ha hb
  rwa [tells_str.eqv] at this
end
theorem flat_len {g : Nat → List Str} {n : Nat} : ∀ {row : List Nat}, (∀ r ∈ row, (g r).length ≤ n) → (row.flatMap g).length ≤ n * row.length
  | [], _ => by simp
  | r :: row, h => by
    have h1 := h r (.head _)
    have h2 := flat_len (row := row) fun r hr => h r (.tail _ hr)
    rw [List.flatMap_cons, List.length_append, List.length_cons, Nat.mul_succ]
    omega
/-! ## the law's own words -/
def hl : List (Nat × Nat × Nat) := [(0,0,0),(0,0,1),(0,1,0),(0,1,1),(0,2,0),(0,2,1),(1,0,0),(1,0,1),(1,1,0),(1,1,1),(1,2,0),(1,2,1)]
def pst (u h l : Nat) : Str := sign (if u = 0 then "abc" else "ABC") h ++ xy l
def posts12 : List Str := hl.map fun t => pst t.1 t.2.1 t.2.2
structure Posty (x : Str) : Prop where
  ok : PyData.strOk x = true
  two : x.cps.size = 2
  ok0 : PyData.strOk (sign x 0) = true
  ok1 : PyData.strOk (sign x 1) = true
  okl : PyData.strOk (Txt.lower (sign x 0)) = true
theorem posty {x : Str} (h : x ∈ posts12) : Posty x := by
  have : ∀ x ∈ posts12, PyData.strOk x = true ∧ x.cps.size = 2 ∧ PyData.strOk (sign x 0) = true ∧ PyData.strOk (sign x 1) = true ∧ PyData.strOk (Txt.lower (sign x 0)) = true := by decide +kernel
  obtain ⟨a, b, c, d, e⟩ := this x h
  exact ⟨a, b, c, d, e⟩
theorem find_abc {β : Type} (g : Nat → β) {i : Nat} (h : i < 3) : (((List.range 3).map fun k => (abc k, g k)).find? fun z => z.1 = abc i) = some (abc i, g i) := by
  have : i = 0 ∨ i = 1 ∨ i = 2 := by omega
  rcases this with rfl | rfl | rfl <;> rfl
theorem signs_abc : (signs "abc").map (fun y => D (.str y)) = (List.range 3).map fun n => D (.str (abc n)) := rfl
theorem abc_ok {i : Nat} (h : i < 3) : PyData.strOk (abc i) = true := by
  have : i = 0 ∨ i = 1 ∨ i = 2 := by omega
  rcases this with rfl | rfl | rfl <;> decide +kernel
end Mine
set_option maxRecDepth 100000
set_option maxHeartbeats 4000000
set_option linter.unusedVariables false
namespace Mine
open PySem PySem.Spec PySem.Calls PyProof.Rows PySem.W
abbrev HandsV (prog : Program) (w : World) (g : Nat → List Str) : VP := DcV prog w ((List.range 3).map fun k => (abc k, FL .str (g k)))
abbrev WorldV (prog : Program) (w : World) (tk sd : Nat → List Str) (first : List Str) : VP := LsV [HandsV prog w tk, HandsV prog w sd, FL .str first]
def cameOf (sd : Nat → List Str) (first : List Str) (row : List Nat) (h : Nat) : List Str := ((first ++ row.flatMap sd).filter fun x => Txt.lower (sign x 0) == abc h).map fun x => sign x 1
def boxOf (tk sd : Nat → List Str) (first : List Str) (row : List Nat) (h : Nat) : List Str :=
  ((List.range (cameOf sd first row h).length).filter fun k => decide ((((row.map abc).count (abc h) * (tk h).count ((cameOf sd first row h).getD k Str.empty) : Nat) : Int) < (((cameOf sd first row h).take (k + 1)).count ((cameOf sd first row h).getD k Str.empty) : Nat))).map fun k => (cameOf sd first row h).getD k Str.empty
section
variable {prog : Program} {w : World} {W : List Addr} {A : Around} {env : Env} {s₀ s : Shared} {mg mb : Str → Option Value} {v v' v'' : Value}
theorem box_ok {tk sd : Nat → List Str} {first : List Str} {row : List Nat} {h : Nat} (R : Room A 1) (hW : Wd (KK w) mg mb s.heap) (h1 : (WorldV prog w tk sd first).p v (Vw W s.heap)) (h2 : (FL .str (row.map abc)).p v' (Vw W s.heap)) (h3 : (D (.str (abc h))).p v'' (Vw W s.heap))
    (hh : h < 3) (hrow : ∀ r ∈ row, r < 3) (hsd : ∀ k, k < 3 → ∀ x ∈ sd k, x ∈ posts12) (hfi : ∀ x ∈ first, x ∈ posts12) (htk : ∀ k, k < 3 → ∀ x ∈ tk k, PyData.strOk x = true) (hl1 : first.length ≤ 5) (hl2 : ∀ k, k < 3 → (sd k).length ≤ 2) (hl3 : row.length ≤ 6) (hl4 : ∀ k, k < 3 → (tk k).length ≤ 2) :
    Ev prog w W A (call (.ref 210) [v, v', v'']) (FL .str (boxOf tk sd first row h)) s := by
  refine ev_call (K := KK w) R hW rfl rfl rfl rfl rfl rfl rfl rfl rfl rfl ?_
  intro L env A' W' s₁ he hA' R' hL hW' F kv
  clear hA' hW' R
  subst he
  have k1 := VP.mono _ kv h1
  have k2 := VP.mono _ kv h2
  have k3 := VP.mono _ kv h3
  have hW1 := hW.mono (kps_kp F.done)
  refine st_unpack F (Pv := WorldV prog w tk sd first) (Ps := [HandsV prog w tk, HandsV prog w sd, FL .str first]) (pe_name (ld_local F rfl k1)) (fun v s' _ h => ⟨src_list R'.hd h, typeIs_list h⟩) PySem.F.slot_list_iter.lookup fun vs s2 F2 q2 hvs => ?_
  obtain ⟨⟩ | ⟨ha, hvs⟩ := hvs
  obtain ⟨⟩ | ⟨hb, hvs⟩ := hvs
  obtain ⟨⟩ | ⟨hc, hvs⟩ := hvs
  cases hvs
  refine ord_cons (wpAny_assign_Name (store_cell F2 rfl (fun s3 F3 c3 => ?_) rfl))
  refine ord_cons (wpAny_assign_Name (store_cell F3 rfl (fun s4 F4 c4 => ?_) rfl))
  refine ord_cons (wpAny_assign_Name (store_local F4 (fun s5 F5 c5 => ?_) rfl))
  refine ord_nil ?_
  have kv5 : Kp (Vw W' s2.heap) (Vw W' s5.heap) := (kb_vw (by intro b hb; rw [List.mem_singleton.mp hb]; exact F2.cel (n := "takes") rfl) c3).trans ((kb_vw (by intro b hb; rw [List.mem_singleton.mp hb]; exact F2.cel (n := "sends") rfl) c4).trans (kb_vw (by intro b hb; rw [List.mem_singleton.mp hb]; exact F2.loc) c5))
  have hW5 := hW.mono (kps_kp F5.done)
  have ht5 := VP.mono _ kv5 ha
  have hs5 := VP.mono _ kv5 hb
  have hf5 := VP.mono _ kv5 hc
  have kv05 := (vw_mono (W := W') (kps_kp q2)).trans kv5
  have hr5 := VP.mono _ kv05 k2
  have hh5 := VP.mono _ kv05 k3
  have hfl : (row.flatMap sd).length ≤ 12 := Nat.le_trans (flat_len fun r hr => hl2 r (hrow r hr)) (by omega)
  have hall : ∀ x ∈ first ++ row.flatMap sd, x ∈ posts12 := fun x hx => by
    rcases List.mem_append.mp hx with hx | hx
    · exact hfi x hx
    · obtain ⟨r, hr, hx⟩ := List.mem_flatMap.mp hx
      exact hsd r (hrow r hr) x hx
  have hlen : (first ++ row.flatMap sd).length ≤ 17 := by rw [List.length_append]; omega
  have hcl : (cameOf sd first row h).length ≤ 17 := by
    unfold cameOf
    rw [List.length_map]
    exact Nat.le_trans (List.length_filter_le _ _) hlen
  have hsz : 17 ≤ sizeLine := by decide
  refine st_cell F5 (P := FL .str (cameOf sd first row h)) ?_ rfl fun vc s6 F6 kv6 hvc => ?_
  · show PE prog w W' A' _ s5 _ (LsV ((cameOf sd first row h).map fun x => D (.str x)))
    unfold cameOf
    rw [List.map_map]
    refine pe_lc1 (first ++ row.flatMap sd) (Pit := LsV ((first ++ row.flatMap sd).map fun x => D (.str x))) (Pf := fun x => D (.str x)) (fun x => Txt.lower (sign x 0) == abc h) ?_ (fun v s _ hh => src_list R'.hd hh) (Nat.le_trans hlen hsz) ?_
    · rw [List.map_append, List.map_flatMap]
      refine pe_bin (pe_name (ld_local F5 rfl hf5)) (pe_lc2 (Pit := FL .str (row.map abc)) (Pf := fun r => D (.str (abc r))) (Pg := fun _ x => D (.str x)) (Po := fun _ x => D (.str x)) row sd (pe_name (ld_cell F5 rfl rfl hr5)) (fun v s _ hh => ?_) (Nat.le_trans hfl (by decide)) ?_ ?_) (op_add_list ?_)
      · have := src_list (prog := prog) (w := w) R'.hd hh
        rw [List.map_map] at this
        exact this
      · intro r hr W2 C s k kv2 hok hx
        refine ⟨FL .str (sd r), pe_sub (pe_name (ld_free F5 k kv2 rfl rfl hs5)) (pe_name hx) (sub_dict (find_abc (fun k => FL .str (sd k)) (hrow r hr))), fun v s' _ hv X hX => src_listX R'.hd hX hv⟩
      · intro r hr x hx' W2 C s k kv2 hok hx hx2
        exact pe_name hx2
      · rw [List.length_map, ← List.map_flatMap, List.length_map, ← List.length_append]
        exact Nat.le_trans hlen hsz
    · intro x hx W2 C s k kv2 hok hld
      have P := posty (hall x hx)
      refine ⟨?_, fun _ => pe_sub (pe_name hld) (pe_nat (i := 1)) (sub_str (by rw [P.two]; decide) (by decide))⟩
      refine pt_cmp (P1 := D (.str (Txt.lower (sign x 0)))) (P2 := D (.str (abc h))) ?_ (pe_name (ld_free F5 k kv2 rfl rfl hh5)) (op_eq_str P.okl (abc_ok hh) R'.un)
      exact pe_meth (P1 := D (.str (sign x 0))) (pe_sub (pe_name hld) (pe_nat (i := 0)) (sub_str (by rw [P.two]; decide) (by decide))) pes_nil PySem.F.plainAttrs_str PySem.F.slot_str_lower PySem.F.type_str_lower callee_str (fun v vs s _ h1 h2 => call_lower rfl (by show 1 ≤ 5592405; decide) v vs s h1 h2)
  · have hW6 := hW.mono (kps_kp F6.done)
    have ht6 := VP.mono _ kv6 ht5
    have hr6 := VP.mono _ kv6 hr5
    have hh6 := VP.mono _ kv6 hh5
    refine st_return F6 (P := FL .str (boxOf tk sd first row h)) ?_ fun v s' F' k hp => ⟨F'.done, hp⟩
    show PE prog w W' A' _ s6 _ (LsV ((boxOf tk sd first row h).map fun x => D (.str x)))
    unfold boxOf
    rw [List.map_map]
    have hco : ∀ x ∈ cameOf sd first row h, PyData.strOk x = true := fun x hx => by
      unfold cameOf at hx
      obtain ⟨y, hy, rfl⟩ := List.mem_map.mp hx
      exact (posty (hall y (List.mem_filter.mp hy).1)).ok1
    generalize cameOf sd first row h = cm at *
    have hcs : cm.length ≤ sizeLine := Nat.le_trans hcl hsz
    refine pe_lc1 (List.range cm.length) (Pit := RangeV 0 (cm.length : Nat) 1) (Pf := fun i : Nat => D (.int (i : Int))) (fun k => decide ((((row.map abc).count (abc h) * (tk h).count (cm.getD k Str.empty) : Nat) : Int) < ((cm.take (k + 1)).count (cm.getD k Str.empty) : Nat))) ?_ (fun v s _ h => srcs_upto R'.hd hcs h) (by rw [List.length_range]; exact hcs) ?_
    · exact pe_call_type (pe_built hW6 rfl boot_range) (pes_cons (pe_call_builtin (pe_built hW6 rfl boot_len) (pes_cons (pe_name (ld_cell F6 rfl rfl hvc)) pes_nil) (fun vs s k h => call_len' hcs vs s h)) pes_nil) (fun vs s k h => call_upto vs s h)
    · intro i hi W2 C s k kv2 hok hx
      have hi' : i < cm.length := List.mem_range.mp hi
      have hg : (cm.map fun x => D (.str x))[i]? = some (D (.str (cm.getD i Str.empty))) := by
        simp [List.getD_eq_getElem?_getD, hi']
      have hfit : ((i : Nat) : Int) < 2 ^ 63 := by omega
      have hin : cm.getD i Str.empty ∈ cm := by
        rw [List.getD_eq_getElem?_getD, List.getElem?_eq_getElem hi']
        exact List.getElem_mem _
      have hmul : IntMulOk (((row.map abc).count (abc h) : Nat) : Int) (((tk h).count (cm.getD i Str.empty) : Nat) : Int) := by
        refine IntMulOk.of_left ?_
        have h1 : (row.map abc).count (abc h) < 7 := Nat.lt_of_le_of_lt List.count_le_length (by rw [List.length_map]; omega)
        have h2 : ∀ x : Fin 7, Builtin.Int.intBits ((x : Nat) : Int) ≤ 64 := by decide +kernel
        exact h2 ⟨_, h1⟩
      refine ⟨?_, fun _ => (pe_sub (pe_name (ld_free F6 k kv2 rfl rfl hvc)) (pe_name hx) (sub_list hg hfit))⟩
      refine pt_cmp (P1 := D (.int ((cm.take (i + 1)).count (cm.getD i Str.empty) : Nat))) (P2 := D (.int (((row.map abc).count (abc h) * (tk h).count (cm.getD i Str.empty) : Nat) : Int))) ?_ ?_ op_gt
      · refine pe_meth (P1 := FL .str (cm.take (i + 1))) ?_ (pes_cons (pe_sub (pe_name (ld_free F6 k kv2 rfl rfl hvc)) (pe_name hx) (sub_list hg hfit)) pes_nil) PySem.F.plainAttrs_list PySem.F.slot_list_count PySem.F.type_list_count callee_list
          (fun v vs s _ h1 h2 => call_count tells_str (fun x hx => hco x (List.mem_of_mem_take hx)) (hco _ hin) R'.un65 v vs s h1 h2)
        show PE prog w W2 A' _ s _ (LsV ((cm.take (i + 1)).map fun x => D (.str x)))
        rw [List.map_take]
        exact pe_upto (b := i + 1) (pe_name (ld_free F6 k kv2 rfl rfl hvc)) (pe_bin (pe_name hx) (pe_nat (i := 1)) op_addN) (by rw [List.length_map]; exact hcs)
      · refine pe_bin (P1 := D (.int (((row.map abc).count (abc h) : Nat) : Int))) (P2 := D (.int (((tk h).count (cm.getD i Str.empty) : Nat) : Int))) ?_ ?_ (op_mulN hmul)
        · exact pe_meth (P1 := FL .str (row.map abc)) (pe_name (ld_free F6 k kv2 rfl rfl hr6)) (pes_cons (pe_name (ld_free F6 k kv2 rfl rfl hh6)) pes_nil) PySem.F.plainAttrs_list PySem.F.slot_list_count PySem.F.type_list_count callee_list
            (fun v vs s _ h1 h2 => call_count tells_str (fun x hx => by obtain ⟨r, hr, rfl⟩ := List.mem_map.mp hx; exact abc_ok (hrow r hr)) (abc_ok hh) R'.un65 v vs s h1 h2)
        · exact pe_meth (P1 := FL .str (tk h)) (pe_sub (pe_name (ld_free F6 k kv2 rfl rfl ht6)) (pe_name (ld_free F6 k kv2 rfl rfl hh6)) (sub_dict (find_abc (fun k => FL .str (tk k)) hh))) (pes_cons (pe_sub (pe_name (ld_free F6 k kv2 rfl rfl hvc)) (pe_name hx) (sub_list hg hfit)) pes_nil) PySem.F.plainAttrs_list PySem.F.slot_list_count PySem.F.type_list_count callee_list
            (fun v vs s _ h1 h2 => call_count tells_str (htk h hh) (hco _ hin) R'.un65 v vs s h1 h2)
end
end Mine
set_option maxRecDepth 100000
set_option maxHeartbeats 4000000
set_option linter.unusedVariables false
namespace Mine
open PySem PySem.Spec PySem.Calls PyProof.Rows PySem.W

def ableOf (tk : Nat → List Str) (ws : List Str) : List Nat := (List.range 3).filter fun n => ((tk n).filter fun l => decide (((ws.count (abc n ++ l) : Nat) : Int) < ((tk n).count l : Nat))) == ([] : List Str)
structure RunSt where
  ws : List Str
  row : List Nat
  c : Nat
def takeAll (tk : Nat → List Str) (h : Nat) (ws : List Str) (n : Nat) : List Str := ((tk h).take n).foldl (fun ws l => ws.erase (abc h ++ l)) ws
def runStep (tk sd : Nat → List Str) (x : RunSt) : RunSt :=
  if ableOf tk x.ws = [] then x else
    let h := (ableOf tk x.ws).getD (x.c % (ableOf tk x.ws).length) 0
    ⟨takeAll tk h x.ws (tk h).length ++ (sd h).map Txt.lower, x.row ++ [h], x.c / (ableOf tk x.ws).length⟩
def runGo (tk sd : Nat → List Str) (first : List Str) (c : Nat) : Nat → RunSt
  | 0 => ⟨first.map Txt.lower, [], c⟩
  | n + 1 => runStep tk sd (runGo tk sd first c n)
theorem lower_ok {x : Str} (h : x ∈ posts12) : PyData.strOk (Txt.lower x) = true := by
  have : ∀ x ∈ posts12, PyData.strOk (Txt.lower x) = true := by decide +kernel
  exact this x h
theorem cat_ok {h : Nat} {l : Str} (hh : h < 3) (hl : l = xy 0 ∨ l = xy 1) : PyData.strOk (abc h ++ l) = true ∧ (abc h).length + l.length ≤ 2 ∧ PyData.strOk l = true := by
  have : h = 0 ∨ h = 1 ∨ h = 2 := by omega
  rcases this with rfl | rfl | rfl <;> rcases hl with rfl | rfl <;> exact ⟨by decide +kernel, by decide, by decide +kernel⟩
theorem able_lt {tk : Nat → List Str} {ws : List Str} {h : Nat} (hm : h ∈ ableOf tk ws) : h < 3 := List.mem_range.mp (List.mem_filter.mp hm).1
theorem getD_mem {xs : List Nat} {i : Nat} (h : i < xs.length) : xs.getD i 0 ∈ xs := by
  rw [List.getD_eq_getElem?_getD, List.getElem?_eq_getElem h]; exact List.getElem_mem h

theorem able_spec {tk : Nat → List Str} {ws : List Str} {h : Nat} (hm : h ∈ ableOf tk ws) : ∀ l ∈ tk h, (tk h).count l ≤ ws.count (abc h ++ l) := fun l hl => by
  have h1 := (List.mem_filter.mp hm).2
  have h2 : (tk h).filter (fun l => decide (((ws.count (abc h ++ l) : Nat) : Int) < ((tk h).count l : Nat))) = [] := by simpa using h1
  have h3 := List.filter_eq_nil_iff.mp h2 l hl
  simp at h3
  omega
theorem cat_inj {h : Nat} (hh : h < 3) {l l' : Str} (hl : l = xy 0 ∨ l = xy 1) (hl' : l' = xy 0 ∨ l' = xy 1) (e : abc h ++ l = abc h ++ l') : l = l' := by
  have : h = 0 ∨ h = 1 ∨ h = 2 := by omega
  rcases this with rfl | rfl | rfl <;> rcases hl with rfl | rfl <;> rcases hl' with rfl | rfl <;> first | rfl | (exfalso; revert e; decide +kernel)
theorem takeAll_succ {tk : Nat → List Str} {h : Nat} {ws : List Str} {j : Nat} (hj : j < (tk h).length) : takeAll tk h ws (j + 1) = (takeAll tk h ws j).erase (abc h ++ (tk h)[j]) := by
  unfold takeAll
  rw [List.take_succ_eq_append_getElem hj, List.foldl_append]
  rfl
theorem takeAll_count {tk : Nat → List Str} {h : Nat} {ws : List Str} (hh : h < 3) (htk : ∀ l ∈ tk h, l = xy 0 ∨ l = xy 1) {l : Str} (hl : l = xy 0 ∨ l = xy 1) : ∀ j, j ≤ (tk h).length → ws.count (abc h ++ l) ≤ (takeAll tk h ws j).count (abc h ++ l) + ((tk h).take j).count l
  | 0, _ => by simp [takeAll]
  | j + 1, hj => by
    have ih := takeAll_count (ws := ws) hh htk hl j (by omega)
    have hj' : j < (tk h).length := hj
    rw [takeAll_succ hj', List.take_succ_eq_append_getElem hj', List.count_append, List.count_erase, List.count_singleton]
    by_cases e : (tk h)[j] = l
    · rw [e]; simp; omega
    · have : ¬ abc h ++ (tk h)[j] = abc h ++ l := fun q => e (cat_inj hh (htk _ (List.getElem_mem _)) hl q)
      have e1 : (abc h ++ (tk h)[j] == abc h ++ l) = false := by simpa using this
      have e2 : ((tk h)[j] == l) = false := by simpa using e
      simp [e1, e2]; omega
theorem take_in {tk : Nat → List Str} {h : Nat} {ws : List Str} (hm : h ∈ ableOf tk ws) (htk : ∀ l ∈ tk h, l = xy 0 ∨ l = xy 1) {j : Nat} (hj : j < (tk h).length) : abc h ++ (tk h)[j] ∈ takeAll tk h ws j := by
  have hl := htk _ (List.getElem_mem hj)
  have h1 := takeAll_count (ws := ws) (able_lt hm) htk hl j (by omega)
  have h2 := able_spec hm _ (List.getElem_mem hj)
  have h3 : ((tk h).take j).count (tk h)[j] < (tk h).count (tk h)[j] := by
    have e : (tk h).count (tk h)[j] = ((tk h).take j ++ (tk h).drop j).count (tk h)[j] := by rw [List.take_append_drop]
    have : 0 < ((tk h).drop j).count (tk h)[j] := by
      rw [List.count_pos_iff, List.drop_eq_getElem_cons hj]
      exact .head _
    rw [e, List.count_append]
    omega
  have : 0 < (takeAll tk h ws j).count (abc h ++ (tk h)[j]) := by omega
  exact List.count_pos_iff.mp this
theorem takeAll_sub {tk : Nat → List Str} {h : Nat} {ws : List Str} : ∀ j, j ≤ (tk h).length → (∀ x ∈ takeAll tk h ws j, x ∈ ws) ∧ (takeAll tk h ws j).length ≤ ws.length
  | 0, _ => by simp [takeAll]
  | j + 1, hj => by
    obtain ⟨a, b⟩ := takeAll_sub (tk := tk) (h := h) (ws := ws) j (by omega)
    rw [takeAll_succ hj]
    exact ⟨fun x hx => a x (List.mem_of_mem_erase hx), Nat.le_trans List.erase_sublist.length_le b⟩
theorem runGo_ok {tk sd : Nat → List Str} {first : List Str} {c : Nat} (hsd : ∀ k, k < 3 → ∀ x ∈ sd k, x ∈ posts12) (hfi : ∀ x ∈ first, x ∈ posts12) (hl1 : first.length ≤ 5) (hl2 : ∀ k, k < 3 → (sd k).length ≤ 2) :
    ∀ n, (∀ x ∈ (runGo tk sd first c n).ws, PyData.strOk x = true) ∧ (runGo tk sd first c n).ws.length ≤ 5 + 2 * n ∧ (runGo tk sd first c n).row.length ≤ n ∧ ∀ r ∈ (runGo tk sd first c n).row, r < 3
  | 0 => ⟨fun x hx => by obtain ⟨y, hy, rfl⟩ := List.mem_map.mp hx; exact lower_ok (hfi y hy), by simp [runGo]; omega, by simp [runGo], by simp [runGo]⟩
  | n + 1 => by
    obtain ⟨a, b, d, e⟩ := runGo_ok (tk := tk) (c := c) hsd hfi hl1 hl2 n
    unfold runGo runStep
    split
    · exact ⟨a, by omega, by omega, e⟩
    · rename_i hne
      have hlen : 0 < (ableOf tk (runGo tk sd first c n).ws).length := List.length_pos_iff.mpr hne
      have hmem := getD_mem (Nat.mod_lt (runGo tk sd first c n).c hlen)
      have hlt := able_lt hmem
      dsimp only
      generalize (ableOf tk (runGo tk sd first c n).ws).getD ((runGo tk sd first c n).c % (ableOf tk (runGo tk sd first c n).ws).length) 0 = h at *
      obtain ⟨p, q⟩ := takeAll_sub (tk := tk) (h := h) (ws := (runGo tk sd first c n).ws) (tk h).length (Nat.le_refl _)
      have := hl2 h hlt
      refine ⟨fun x hx => ?_, by rw [List.length_append, List.length_map]; omega, by rw [List.length_append]; simp; omega, fun r hr => ?_⟩
      · rcases List.mem_append.mp hx with hx | hx
        · exact a x (p x hx)
        · obtain ⟨y, hy, rfl⟩ := List.mem_map.mp hx
          exact lower_ok (hsd h hlt y hy)
      · rcases List.mem_append.mp hr with hr | hr
        · exact e r hr
        · rw [List.mem_singleton.mp hr]; exact hlt

section
variable {prog : Program} {w : World} {W : List Addr} {A : Around} {env : Env} {s₀ s : Shared} {mg mb : Str → Option Value} {v v' v'' : Value}
theorem run_ok {tk sd : Nat → List Str} {first : List Str} {c n : Nat} (R : Room A 1) (hW : Wd (KK w) mg mb (Vw W s.heap)) (h1 : (WorldV prog w tk sd first).p v (Vw W s.heap)) (h2 : (D (.int (c : Int))).p v' (Vw W s.heap)) (h3 : (D (.int (n : Int))).p v'' (Vw W s.heap))
    (hn : n ≤ 4) (hsd : ∀ k, k < 3 → ∀ x ∈ sd k, x ∈ posts12) (hfi : ∀ x ∈ first, x ∈ posts12) (htk : ∀ k, k < 3 → ∀ x ∈ tk k, x = xy 0 ∨ x = xy 1) (hl1 : first.length ≤ 5) (hl2 : ∀ k, k < 3 → (sd k).length ≤ 2) (hl4 : ∀ k, k < 3 → (tk k).length ≤ 2) :
    Ev prog w W A (call (.ref 215) [v, v', v'']) (FL .str ((runGo tk sd first c n).row.map abc)) s := by
  refine ev_call (K := KK w) R (hW.mono (vw_kp _ _)) rfl rfl rfl rfl rfl rfl rfl rfl rfl rfl ?_
  intro L env A' W' s₁ he hA' R' hL hW' F kv
  obtain ⟨O, hO⟩ : ∃ O, O = own env := ⟨_, rfl⟩
  have hOW : ∀ b ∈ O, b ∈ W' := fun b hb => hW' ▸ List.mem_append_left _ (hO ▸ hb)
  have hO0 : ∀ b ∈ O, s.heap.get? b = none := fun b hb => F.off b (hO ▸ hb)
  have hLO : env.locals ∈ O := hO ▸ mem_own_loc _
  clear hA' hW' R
  subst he
  have k1 := VP.mono _ kv h1
  have k2 := VP.mono _ kv h2
  have k3 := VP.mono _ kv h3
  have hW1 := hW.mono kv
  refine st_unpack F (Pv := WorldV prog w tk sd first) (Ps := [HandsV prog w tk, HandsV prog w sd, FL .str first]) (pe_name (ld_local F rfl k1)) (fun v s' _ h => ⟨src_list R'.hd h, typeIs_list h⟩) PySem.F.slot_list_iter.lookup fun vs s2 F2 q2 hvs => ?_
  obtain ⟨⟩ | ⟨ha, hvs⟩ := hvs
  obtain ⟨⟩ | ⟨hb, hvs⟩ := hvs
  obtain ⟨⟩ | ⟨hc, hvs⟩ := hvs
  cases hvs
  rename_i vt vsd vf
  refine ord_cons (wpAny_assign_Name (store_cell F2 rfl (fun s3 F3 c3 => ?_) rfl))
  refine ord_cons (wpAny_assign_Name (store_local F3 (fun s4 F4 c4 => ?_) rfl))
  refine ord_cons (wpAny_assign_Name (store_local F4 (fun s5 F5 c5 => ?_) rfl))
  refine ord_nil ?_
  have kv5 : Kp (Vw W' s2.heap) (Vw W' s5.heap) := (kb_vw (by intro b hb; rw [List.mem_singleton.mp hb]; exact F2.cel (n := "takes") rfl) c3).trans ((kb_vw (by intro b hb; rw [List.mem_singleton.mp hb]; exact F2.loc) c4).trans (kb_vw (by intro b hb; rw [List.mem_singleton.mp hb]; exact F2.loc) c5))
  have kv05 := (vw_mono (W := W') (kps_kp q2)).trans kv5
  have hW5 := hW1.mono kv05
  have ht5 := VP.mono _ kv5 ha
  have hs5 := VP.mono _ kv5 hb
  have hf5 := VP.mono _ kv5 hc
  have hc5 := VP.mono _ kv05 k2
  have hn5 := VP.mono _ kv05 k3
  refine st_cellK F5 (P := LsF s5.heap (first.map fun x => D (.str (Txt.lower x)))) ?_ rfl fun vw s6 F6 c6 hvw => ?_
  · refine pe_lc0F first (Pit := FL .str first) (Pf := fun x => D (.str x)) (pe_name (ld_local F5 rfl hf5)) (fun v s' _ h => src_list R'.hd h) (by rw [sizeLine_eq]; omega) ?_
    intro x hx W2 C s k kv2 hok hld
    have : x.length ≤ 5592405 := by have := (posty (hfi x hx)).two; show x.cps.size ≤ _; omega
    exact pe_meth (P1 := D (.str x)) (pe_name hld) pes_nil PySem.F.plainAttrs_str PySem.F.slot_str_lower PySem.F.type_str_lower callee_str (fun v vs s _ h1 h2 => call_lower rfl this v vs s h1 h2)
  obtain ⟨wt, rfl, hwt0, hwtW, hwt⟩ := LsF.mu hvw
  have F7 := F6.hide hwt
  have kv6 : Kp (Vw W' s5.heap) (Vw (wt :: W') s6.heap) := kv_hide (kb_vw (by intro b hb; rw [List.mem_singleton.mp hb]; exact F5.cel (n := "waits") rfl) c6) hwt0
  refine st_localK F7 (P := LsF s6.heap []) (pe_listF pes_nil (by decide)) fun vr s8 F8 c8 hvr => ?_
  obtain ⟨rw', rfl, hrw0, hrwW, hrw⟩ := LsF.mu hvr
  have F9 := F8.hide hrw
  have hLW : ∀ b ∈ [L], b ∈ wt :: W' := fun b hb => by rw [List.mem_singleton.mp hb]; exact .tail _ F.loc
  have kv8 : Kp (Vw (wt :: W') s6.heap) (Vw (rw' :: wt :: W') s8.heap) := kv_hide (kb_vw hLW c8) hrw0
  have hwtL : wt ∉ [L] := fun q => hwtW (by rw [List.mem_singleton.mp q]; exact F.loc)
  have hwt8 : Mu (rw' :: wt :: W') wt (first.map fun x => D (.str (Txt.lower x))) s8.heap := hwt.go (kb_get c8 hwtL) kv8
  have hrwL : rw' ∉ [L] := fun q => hrwW (.tail _ (by rw [List.mem_singleton.mp q]; exact F.loc))
  have hwtO : wt ∉ O := fun q => hwtW (hOW _ q)
  have hrwO : rw' ∉ O := fun q => hrwW (.tail _ (hOW _ q))
  have hwr : rw' ≠ wt := fun q => hrwW (by rw [q]; exact .head _)
  have s0wt : s.heap.get? wt = none := none_of F5.keep hwt0
  have s0rw : s.heap.get? rw' = none := none_of F7.keep hrw0
  have kvW := kv6.trans kv8
  have hn8 : (D (.int (n : Int))).p v'' (Vw (rw' :: wt :: W') s8.heap) := VP.mono _ kvW hn5
  have hW8 := hW5.mono kvW
  have hns : n ≤ sizeLine := by rw [sizeLine_eq]; omega
  have hXW : ∀ b ∈ rw' :: wt :: O, b ∈ rw' :: wt :: W' := by
    intro b hb
    rcases List.mem_cons.mp hb with rfl | hb
    · exact .head _
    rcases List.mem_cons.mp hb with rfl | hb
    · exact .tail _ (.head _)
    exact .tail _ (.tail _ (hOW _ hb))
  refine st_for F9 (List.range n) (rw' :: wt :: O) (Pit := RangeV 0 (n : Nat) 1) (Pf := fun i : Nat => D (.int (i : Int)))
    (fun i m cm h => (∃ vc, m "cell" = some vc ∧ (D (.int ((runGo tk sd first c i).c : Int))).p vc (Vw (rw' :: wt :: W') h)) ∧ m "row" = some (.ref rw') ∧ m "sends" = some vsd ∧ cm "takes" = some vt ∧ cm "waits" = some (.ref wt) ∧
      Mu (rw' :: wt :: W') wt ((runGo tk sd first c i).ws.map fun x => D (.str x)) h ∧ Mu (rw' :: wt :: W') rw' ((runGo tk sd first c i).row.map fun r => D (.str (abc r))) h)
    ?_ ?_ ?_ ?_ ?_ ?_ ?_ ?_ ?_ ?_
  · rintro i m cm h h' ⟨⟨vc, e1, e2⟩, e3, e4, e5, e6, e7, e8⟩ k
    exact ⟨⟨vc, e1, VP.mono _ (vw_mono k) e2⟩, e3, e4, e5, e6, e7.mono k, e8.mono k⟩
  · rintro i m cm h ⟨⟨vc, e1, e2⟩, e3, e4, e5, e6, ⟨_, ⟨_, e7⟩, _⟩, ⟨_, ⟨_, e8⟩, _⟩⟩ b hb
    rcases List.mem_cons.mp hb with rfl | hb
    · exact .inr ⟨_, e8⟩
    rcases List.mem_cons.mp hb with rfl | hb
    · exact .inr ⟨_, e7⟩
    exact .inl (hO ▸ hb)
  · exact fun b hb => .tail _ (.tail _ (hO ▸ hb))
  · exact hXW
  · intro b hb
    rcases List.mem_cons.mp hb with rfl | hb
    · exact s0rw
    rcases List.mem_cons.mp hb with rfl | hb
    · exact s0wt
    exact hO0 _ hb
  · exact pe_call_type (pe_built (hW8.mono (vw_kp _ _)) rfl boot_range) (pes_cons (pe_name (ld_local F9 (x := "size") rfl hn8)) pes_nil) (fun vs s k h => call_upto vs s h)
  · exact fun v s' _ h => srcx_upto hXW R'.hd hns h
  · refine ⟨⟨_, rfl, VP.mono _ kvW hc5⟩, rfl, rfl, rfl, rfl, ?_, hrw⟩
    show Mu _ _ ((first.map Txt.lower).map _) _
    rw [List.map_map]
    exact hwt8
  · intro i y hy I s9 m1 cm1 v9 hIW hI0 F10 hJ hv9 kv9 kx9 E'
    have hi : i < n := by simpa using (List.getElem?_eq_some_iff.mp hy).1
    obtain ⟨⟨vc, e1, e2⟩, e3, e4, e5, e6, e7, e8⟩ := hJ
    obtain ⟨g1, g2, g3, g4⟩ := runGo_ok (tk := tk) (c := c) hsd hfi hl1 hl2 i
    have hgo : runGo tk sd first c (i + 1) = runStep tk sd (runGo tk sd first c i) := rfl
    rw [hgo]
    generalize runGo tk sd first c i = g at *
    refine wpAny_assign_Name (store_local F10 (fun s10 F11 c10 => ?_) rfl)
    have hLI : ∀ b ∈ [L], b ∈ I :: rw' :: wt :: W' := fun b hb => .tail _ (.tail _ (hLW b hb))
    have kv10 : Kp (Vw (I :: rw' :: wt :: W') s9.heap) (Vw (I :: rw' :: wt :: W') s10.heap) := kb_vw hLI c10
    have T10 : (HandsV prog w tk).p vt (Vw (I :: rw' :: wt :: W') s10.heap) := VP.mono _ (kvW.trans (kv9.trans kv10)) ht5
    have S10 : (HandsV prog w sd).p vsd (Vw (I :: rw' :: wt :: W') s10.heap) := VP.mono _ (kvW.trans (kv9.trans kv10)) hs5
    have C10 : (D (.int (g.c : Int))).p vc (Vw (I :: rw' :: wt :: W') s10.heap) := VP.mono _ kv10 e2
    have W10 := hW8.mono (kv9.trans kv10)
    have Mw10 : Mu (I :: rw' :: wt :: W') wt (g.ws.map fun x => D (.str x)) s10.heap := (Mu.out e7).kb' c10 hwtL hLI
    have Mr10 : Mu (I :: rw' :: wt :: W') rw' (g.row.map fun r => D (.str (abc r))) s10.heap := (Mu.out e8).kb' c10 hrwL hLI
    refine st_lc1c F11 (List.range 3) (Pit := D (.str "abc")) (Pf := fun n : Nat => D (.str (abc n))) (Po := fun n => D (.str (abc n)))
      (tb := fun n => ((tk n).filter fun l => decide (((g.ws.count (abc n ++ l) : Nat) : Int) < ((tk n).count l : Nat))) == ([] : List Str)) pe_str (fun v s' _ h => ?_) (by decide) ?_ fun va s11 F12 c11 hva => ?_
    · have := srcs_str (prog := prog) (w := w) R'.hd h
      rw [signs_abc] at this
      exact this
    · intro y hy W2 C s12 v12 k12 kv12 ok12 hcell hv12
      have hy3 : y < 3 := List.mem_range.mp hy
      have hgood : ∀ x ∈ tk y, Good 0 (.str x) := fun x hx => good_str (cat_ok hy3 (htk y hy3 x hx)).2.2
      refine ⟨?_, fun _ => pe_name (x := "name") (ld_at hcell hv12 (kps_refl _) (Kp.refl _))⟩
      refine pt_cmp (P1 := FL .str ((tk y).filter fun l => decide (((g.ws.count (abc y ++ l) : Nat) : Int) < ((tk y).count l : Nat)))) (P2 := FL .str []) ?_ (pe_list pes_nil (by decide)) (op_eq_ls tells_str.eqv (fun x hx => hgood x (List.mem_filter.mp hx).1) (fun x hx => nomatch hx) (by decide) R'.un)
      have hln := hl4 y hy3
      refine pe_lc1 (tk y) (Pit := FL .str (tk y)) (Pf := fun l => D (.str l)) (fun l => decide (((g.ws.count (abc y ++ l) : Nat) : Int) < ((tk y).count l : Nat)))
        (pe_sub (pe_name (x := "takes") (ld_far F11 k12 kv12 rfl e5 T10)) (pe_name (x := "name") (ld_at hcell hv12 (kps_refl _) (Kp.refl _))) (sub_dict (find_abc (fun k => FL .str (tk k)) hy3))) (fun v s' _ h => src_list R'.hd h) (by rw [sizeLine_eq]; omega) ?_
      intro l hl W3 C2 s13 k13 kv13 ok13 hlet
      obtain ⟨o1, o2, o3⟩ := cat_ok hy3 (htk y hy3 l hl)
      have mu13 : Mu W3 wt (g.ws.map fun x => D (.str x)) s13.heap := Mw10.go (fun o => kps_kp (kps_trans k12 k13) _ o) (kv12.trans kv13)
      refine ⟨?_, fun _ => pe_name hlet⟩
      refine pt_cmp (P1 := D (.int (g.ws.count (abc y ++ l) : Nat))) (P2 := D (.int ((tk y).count l : Nat))) ?_ ?_ op_lt
      · refine pe_methK (P1 := Is (.ref wt)) (Ps := [D (.str (abc y ++ l))]) (pe_name (x := "waits") (ld_far F11 (kps_trans k12 k13) (kv12.trans kv13) rfl e6 rfl)) (pes_cons (pe_bin (pe_name (x := "name") (ld_at hcell hv12 k13 kv13)) (pe_name hlet) (op_add_str (Nat.le_trans o2 (by decide)))) pes_nil) PySem.F.plainAttrs_list PySem.F.slot_list_count PySem.F.type_list_count (fun v s' k hv => ?_) (fun v vs s' k hv hvs => ?_)
        · rw [show v = .ref wt from hv]; exact callee_mu (mu13.mono (kps_kp k))
        · rw [show v = .ref wt from hv]; exact call_count_mu tells_str g1 o1 R'.un65 (mu13.mono (kps_kp k)) vs hvs
      · refine pe_meth (P1 := FL .str (tk y)) (pe_sub (pe_name (x := "takes") (ld_far F11 (kps_trans k12 k13) (kv12.trans kv13) rfl e5 T10)) (pe_name (x := "name") (ld_at hcell hv12 k13 kv13)) (sub_dict (find_abc (fun k => FL .str (tk k)) hy3))) (pes_cons (pe_name hlet) pes_nil) PySem.F.plainAttrs_list PySem.F.slot_list_count PySem.F.type_list_count callee_list
          (fun v vs s' _ h1 h2 => call_count tells_str (fun x hx => (cat_ok hy3 (htk y hy3 x hx)).2.2) o3 R'.un65 v vs s' h1 h2)
    have hva' : (FL .str ((ableOf tk g.ws).map abc)).p va (Vw (I :: rw' :: wt :: W') s11.heap) := by
      show (LsV (((ableOf tk g.ws).map abc).map fun x => D (.str x))).p _ _
      rw [List.map_map]
      exact hva
    have kv11 : Kp (Vw (I :: rw' :: wt :: W') s10.heap) (Vw (I :: rw' :: wt :: W') s11.heap) := kb_vw hLI c11
    have C11 := VP.mono _ kv11 C10
    have T11 := VP.mono _ kv11 T10
    have S11 := VP.mono _ kv11 S10
    have W11 := W10.mono kv11
    have Mw11 := Mw10.kb' c11 hwtL hLI
    have Mr11 := Mr10.kb' c11 hrwL hLI
    have hal : ∀ x ∈ (ableOf tk g.ws).map abc, PyData.strOk x = true := fun x hx => by
      obtain ⟨r, hr, rfl⟩ := List.mem_map.mp hx
      exact abc_ok (able_lt hr)
    refine st_if F12 (b := !((ableOf tk g.ws).map abc == [])) (pt_cmp (P1 := FL .str ((ableOf tk g.ws).map abc)) (P2 := FL .str []) (pe_name (ld_local F12 (x := "able") rfl hva')) (pe_list pes_nil (by decide)) (op_ne_ls tells_str.eqv (fun x hx => good_str (hal x hx)) (fun x hx => nomatch hx) (by decide) R'.un)) (fun hb s12 F13 k12 => ?_) (fun hb s12 F13 k12 => ?_)
    · have hne : ableOf tk g.ws ≠ [] := fun q => by rw [q] at hb; exact absurd hb (by decide)
      have hIw : wt ≠ I := fun q => hIW (by rw [← q]; exact .tail _ (.head _))
      have hIr : rw' ≠ I := fun q => hIW (by rw [← q]; exact .head _)
      have hst : runStep tk sd g = ⟨takeAll tk ((ableOf tk g.ws).getD (g.c % (ableOf tk g.ws).length) 0) g.ws (tk ((ableOf tk g.ws).getD (g.c % (ableOf tk g.ws).length) 0)).length ++ (sd ((ableOf tk g.ws).getD (g.c % (ableOf tk g.ws).length) 0)).map Txt.lower, g.row ++ [(ableOf tk g.ws).getD (g.c % (ableOf tk g.ws).length) 0], g.c / (ableOf tk g.ws).length⟩ := by
        unfold runStep
        rw [if_neg hne]
      rw [hst]
      have hlen : 0 < (ableOf tk g.ws).length := List.length_pos_iff.mpr hne
      have hl3 : (ableOf tk g.ws).length ≤ 3 := Nat.le_trans (List.length_filter_le _ _) (by simp)
      have hidx : g.c % (ableOf tk g.ws).length < (ableOf tk g.ws).length := Nat.mod_lt _ hlen
      have hmem : (ableOf tk g.ws).getD (g.c % (ableOf tk g.ws).length) 0 ∈ ableOf tk g.ws := getD_mem hidx
      have hget : (((ableOf tk g.ws).map abc).map fun x => D (.str x))[g.c % (ableOf tk g.ws).length]? = some (D (.str (abc ((ableOf tk g.ws).getD (g.c % (ableOf tk g.ws).length) 0)))) := by
        simp [List.getD_eq_getElem?_getD, hidx]
      have hh := able_lt hmem
      have htake : ∀ j (hj : j < (tk ((ableOf tk g.ws).getD (g.c % (ableOf tk g.ws).length) 0)).length), abc ((ableOf tk g.ws).getD (g.c % (ableOf tk g.ws).length) 0) ++ (tk ((ableOf tk g.ws).getD (g.c % (ableOf tk g.ws).length) 0))[j] ∈ takeAll tk ((ableOf tk g.ws).getD (g.c % (ableOf tk g.ws).length) 0) g.ws j := fun j hj => take_in hmem (htk _ hh) hj
      have C12 := VP.mono _ (vw_mono (W := I :: rw' :: wt :: W') (kps_kp k12)) C11
      have T12 := VP.mono _ (vw_mono (W := I :: rw' :: wt :: W') (kps_kp k12)) T11
      have S12 := VP.mono _ (vw_mono (W := I :: rw' :: wt :: W') (kps_kp k12)) S11
      have A12 := VP.mono _ (vw_mono (W := I :: rw' :: wt :: W') (kps_kp k12)) hva'
      have W12 := W11.mono (vw_mono (W := I :: rw' :: wt :: W') (kps_kp k12))
      have Mw12 := Mw11.mono (kps_kp k12)
      have Mr12 := Mr11.mono (kps_kp k12)
      clear hva hva' hst hmem hb
      generalize (ableOf tk g.ws).getD (g.c % (ableOf tk g.ws).length) 0 = hnd at *
      generalize ableOf tk g.ws = al at *
      have hN : (al.map abc).length = al.length := List.length_map ..
      have hsz : (al.map abc).length ≤ sizeLine := by rw [hN, sizeLine_eq]; omega
      have len12 : ∀ (s : Shared) (vs : List Value), VAll (Vw (I :: rw' :: wt :: W') s.heap) [FL .str (al.map abc)] vs → Ev prog w (I :: rw' :: wt :: W') A' (call (.builtin "len") vs) (D (.int ((al.length : Nat) : Int))) s := fun s vs h => by
        have := call_len' (prog := prog) (w := w) (A := A') hsz vs s h
        rwa [hN] at this
      refine st_localK F13 (P := D (.str (abc hnd))) (pe_sub (pe_name (ld_local F13 (x := "able") rfl A12)) (pe_bin (pe_name (ld_local F13 (x := "cell") (by show m1 _ = _; exact e1) C12)) (pe_call_builtin (pe_built (W12.mono (vw_kp _ _)) rfl boot_len) (pes_cons (pe_name (ld_local F13 (x := "able") rfl A12)) pes_nil) (fun vs s k h => len12 s vs h)) (op_modN hlen)) (sub_list hget (by omega))) fun vh s13 F14 c13 hvh => ?_
      have kv13 : Kp (Vw (I :: rw' :: wt :: W') s12.heap) (Vw (I :: rw' :: wt :: W') s13.heap) := kb_vw hLI c13
      have C13 := VP.mono _ kv13 C12
      have T13 := VP.mono _ kv13 T12
      have S13 := VP.mono _ kv13 S12
      have A13 := VP.mono _ kv13 A12
      have W13 := W12.mono kv13
      have Mw13 := Mw12.kb' c13 hwtL hLI
      have Mr13 := Mr12.kb' c13 hrwL hLI
      refine st_localK F14 (P := D (.int ((g.c / al.length : Nat) : Int))) (pe_bin (pe_name (ld_local F14 (x := "cell") (by show m1 _ = _; exact e1) C13)) (pe_call_builtin (pe_built (W13.mono (vw_kp _ _)) rfl boot_len) (pes_cons (pe_name (ld_local F14 (x := "able") rfl A13)) pes_nil) (fun vs s k h => len12 s vs h)) (op_fdivN hlen (by omega))) fun vc' s14 F15 c14 hvc' => ?_
      have kv14 : Kp (Vw (I :: rw' :: wt :: W') s13.heap) (Vw (I :: rw' :: wt :: W') s14.heap) := kb_vw hLI c14
      have H14 := VP.mono _ kv14 hvh
      have T14 := VP.mono _ kv14 T13
      have S14 := VP.mono _ kv14 S13
      have W14 := W13.mono kv14
      have Mw14 := Mw13.kb' c14 hwtL hLI
      have Mr14 := Mr13.kb' c14 hrwL hLI
      refine st_meth1 F15 (pe_name (ld_local F15 (x := "row") (by show m1 _ = _; exact e3) rfl)) Mr14 (pe_name (ld_local F15 (x := "hand") rfl H14)) PySem.F.slot_list_append PySem.F.type_list_append fun vx s15 F16 k15 hvx => ?_
      have hwI : ∀ b ∈ [rw'], b ∈ I :: rw' :: wt :: W' := fun b hb => by rw [List.mem_singleton.mp hb]; exact .tail _ (.head _)
      have hwI2 : ∀ b ∈ [wt], b ∈ I :: rw' :: wt :: W' := fun b hb => by rw [List.mem_singleton.mp hb]; exact .tail _ (.tail _ (.head _))
      refine call_append (hwI _ (.head _)) (Mr14.mono (kps_kp k15)) hvx (by rw [List.length_map, sizeLine_eq]; omega) fun s16 now => ?_
      have hbase : ∀ b, b ∈ rw' :: wt :: O → (Vw (rw' :: wt :: O) s9.heap).get? b = none := fun b hb => hideAll_none _ hb
      have F17 := F16.kb now.kb (now.ok F16.ok) (hide1 (by rw [← hO]; exact hrwO) (hbase _ (.head _)))
      have kv16 : Kp (Vw (I :: rw' :: wt :: W') s14.heap) (Vw (I :: rw' :: wt :: W') s16.heap) := (vw_mono (kps_kp k15)).trans (kb_vw hwI now.kb)
      have H16 := VP.mono _ kv16 H14
      have C16 := VP.mono _ kv16 hvc'
      have T16 := VP.mono _ kv16 T14
      have S16 := VP.mono _ kv16 S14
      have W16 := W14.mono kv16
      have Mw16 := (Mw14.mono (kps_kp k15)).kb' now.kb (by simpa using Ne.symm hwr) hwI
      have Mr16 := now.mu
      have hXW2 : ∀ b ∈ wt :: O, b ∈ I :: rw' :: wt :: W' := fun b hb => .tail _ (hXW b (.tail _ hb))
      have hlt := hl4 hnd hh
      refine st_for F17 (tk hnd) (wt :: O) (Pit := FL .str (tk hnd)) (Pf := fun x => D (.str x))
        (fun j m cm h => (∀ y : Str, y ≠ "letter" → m y = (if y = "cell" then some vc' else if y = "hand" then some vh else if y = "able" then some va else if y = "step" then some v9 else m1 y)) ∧ cm = cm1 ∧ Mu (I :: rw' :: wt :: W') wt ((takeAll tk hnd g.ws j).map fun x => D (.str x)) h)
        (fun j m cm h h' ⟨a, b, c⟩ k => ⟨a, b, c.mono k⟩) (fun j m cm h ⟨a, b, ⟨_, ⟨_, c⟩, _⟩⟩ b hb => (List.mem_cons.mp hb).elim (fun q => .inr ⟨_, q ▸ c⟩) fun q => .inl (hO ▸ q)) (fun b hb => .tail _ (hO ▸ hb)) hXW2 (fun b hb => hbase b (.tail _ hb))
        (pe_sub (pe_name (x := "takes") (ld_cell F17 rfl e5 T16)) (pe_name (ld_local F17 (x := "hand") rfl H16)) (sub_dict (find_abc (fun k => FL .str (tk k)) hh))) (fun v s' _ h => src_listX R'.hd hXW2 h) ⟨fun y _ => rfl, rfl, Mw16⟩ ?_ ?_
      · intro j l hjl J s17 m17 cm17 v17 hJW hJ0 F18 ⟨q1, q2, q3⟩ hv17 kv17 kx17 E17
        obtain ⟨hj, rfl⟩ := List.getElem?_eq_some_iff.mp hjl
        have hcat := cat_ok hh (htk hnd hh _ (List.getElem_mem hj))
        refine wpAny_assign_Name (store_local F18 (fun s18 F19 c18 => ?_) rfl)
        have hLJ : ∀ b ∈ [L], b ∈ J :: I :: rw' :: wt :: W' := fun b hb => .tail _ (hLI b hb)
        have kv18 := kb_vw hLJ c18
        have H18 : (D (.str (abc hnd))).p vh (Vw (J :: I :: rw' :: wt :: W') s18.heap) := VP.mono _ (kv17.trans kv18) H16
        have L18 := VP.mono _ kv18 hv17
        have Mw18 := (Mu.out q3).kb' c18 hwtL hLJ
        refine st_meth1 F19 (pe_name (ld_cell F19 (x := "waits") rfl (by rw [q2]; exact e6) rfl)) Mw18 (pe_bin (pe_name (ld_local F19 (x := "hand") (by show m17 _ = _; rw [q1 _ (by decide)]; rfl) H18)) (pe_name (ld_local F19 (x := "letter") rfl L18)) (op_add_str (Nat.le_trans hcat.2.1 (by decide)))) PySem.F.slot_list_remove PySem.F.type_list_remove fun vx s19 F20 k19 hvx => ?_
        obtain ⟨hsub, hslen⟩ := takeAll_sub (tk := tk) (h := hnd) (ws := g.ws) j (Nat.le_of_lt hj)
        refine call_remove tells_str (.tail _ (hwI2 _ (.head _))) (Mw18.mono (kps_kp k19)) hvx (htake j hj) (fun x hx => g1 x (hsub x hx)) (by rw [sizeLine_eq]; omega) R'.un65 fun s20 now2 => ?_
        have hwJ : wt ≠ J := fun q => hJW (by rw [← q]; exact hwI2 _ (.head _))
        refine wpAny_execs_nil ⟨.inl rfl, _, _, F20.kb now2.kb (now2.ok F20.ok) (hide1 (by rw [← hO]; exact hwtO) (hideAll_none _ (.head _))), fun y hy => ?_, q2, ?_⟩
        · show (if y = "letter" then _ else _) = _
          rw [if_neg hy]
          exact q1 y hy
        · rw [takeAll_succ hj]
          exact now2.mu.hide hwJ
      · rintro m17 cm17 s17 F18 ⟨q1, q2, q3⟩ kx17
        subst q2
        have kv17 : Kp (Vw (I :: rw' :: wt :: W') s16.heap) (Vw (I :: rw' :: wt :: W') s17.heap) := kb_vw hXW2 kx17
        have H17 := VP.mono _ kv17 H16
        have S17 := VP.mono _ kv17 S16
        refine st_meth1 F18 (P := LsV ((sd hnd).map fun x => D (.str (Txt.lower x)))) (pe_name (ld_cell F18 (x := "waits") rfl e6 rfl)) q3 ?_ PySem.F.slot_list_extend PySem.F.type_list_extend fun vx s18 F19 k18 hvx => ?_
        · refine pe_lc0 (sd hnd) (Pit := FL .str (sd hnd)) (Pf := fun x => D (.str x)) (pe_sub (pe_name (ld_local F18 (x := "sends") (by rw [q1 _ (by decide)]; exact e4) S17)) (pe_name (ld_local F18 (x := "hand") (by rw [q1 _ (by decide)]; rfl) H17)) (sub_dict (find_abc (fun k => FL .str (sd k)) hh))) (fun v s' _ h => src_list R'.hd h) (by have := hl2 hnd hh; rw [sizeLine_eq]; omega) ?_
          intro x hx W2 C s k kv2 hok hld
          have : x.length ≤ 5592405 := by have := (posty (hsd hnd hh x hx)).two; show x.cps.size ≤ _; omega
          exact pe_meth (P1 := D (.str x)) (pe_name hld) pes_nil PySem.F.plainAttrs_str PySem.F.slot_str_lower PySem.F.type_str_lower callee_str (fun v vs s _ h1 h2 => call_lower rfl this v vs s h1 h2)
        · obtain ⟨hsub, hslen⟩ := takeAll_sub (tk := tk) (h := hnd) (ws := g.ws) (tk hnd).length (Nat.le_refl _)
          refine call_extend (hwI2 _ (.head _)) (q3.mono (kps_kp k18)) hvx (by have := hl2 hnd hh; rw [List.length_map, List.length_map, sizeLine_eq]; omega) fun s19 now2 => ?_
          have Mr17 := (Mr16.kb' kx17 (by intro q; rcases List.mem_cons.mp q with q | q; exact hwr q; exact hrwO q) hXW2).mono (kps_kp k18)
          refine wpAny_execs_nil (wpAny_execs_nil ⟨.inl rfl, _, _, F19.kb now2.kb (now2.ok F19.ok) (hide1 (by rw [← hO]; exact hwtO) (hideAll_none _ (.tail _ (.head _)))), ?_⟩)
          have kv19 : Kp (Vw (I :: rw' :: wt :: W') s17.heap) (Vw (I :: rw' :: wt :: W') s19.heap) := (vw_mono (kps_kp k18)).trans (kb_vw hwI2 now2.kb)
          refine ⟨⟨vc', by rw [q1 _ (by decide)]; rfl, VP.mono _ (kv17.trans kv19) C16⟩, by rw [q1 _ (by decide)]; exact e3, by rw [q1 _ (by decide)]; exact e4, e5, e6, ?_, ?_⟩
          · have := now2.mu.hide hIw
            rw [List.map_append, List.map_map]
            exact this
          · have := (Mr17.kb' now2.kb (by simpa using hwr) hwI2).hide hIr
            rw [List.map_append]
            exact this
    · have hnil : ableOf tk g.ws = [] := by
        simp at hb
        exact hb
      refine wpAny_execs_nil (wpAny_execs_nil ⟨.inl rfl, _, _, F13, ?_⟩)
      unfold runStep
      rw [if_pos hnil]
      have hIw : wt ≠ I := fun q => hIW (by rw [← q]; exact .tail _ (.head _))
      have hIr : rw' ≠ I := fun q => hIW (by rw [← q]; exact .head _)
      exact ⟨⟨vc, by show m1 _ = _; exact e1, VP.mono _ (vw_mono (W := I :: rw' :: wt :: W') (kps_kp k12)) C11⟩, by show m1 _ = _; exact e3, by show m1 _ = _; exact e4, e5, e6, (Mw11.mono (kps_kp k12)).hide hIw, (Mr11.mono (kps_kp k12)).hide hIr⟩
  · rintro m' cm' s9 F10 ⟨_, e3, _, _, _, e7, e8⟩ kx
    rw [List.length_range] at e7 e8
    have F11 := F10.hideLess (W' := W') (fun b hb => .tail _ (.tail _ hb)) F.own
    refine st_return F11 (P := FL .str ((runGo tk sd first c n).row.map abc)) (pe_name (ld_local F11 e3 ?_)) fun v s' F' k hp => ⟨F'.done, hp⟩
    show (LsV (((runGo tk sd first c n).row.map abc).map fun x => D (.str x))).p _ _
    rw [List.map_map]
    exact e8.see (fun b hb => .tail _ (.tail _ hb)) fun q => hrwW (.tail _ q)
end
end Mine
set_option maxRecDepth 100000
set_option maxHeartbeats 4000000
set_option linter.unusedVariables false
namespace Mine
open PySem PySem.Spec PySem.Calls PyProof.Rows PySem.W PySem.MeetsSeq

section
variable {prog : Program} {w : World} {W : List Addr} {A : Around} {env : Env} {s₀ s : Shared} {K : Frag} {mg mb : Str → Option Value} {P P1 P2 : VP} {pos p px : Pos} {m cm : Str → Option Value} {x name : Str} {e : Expr} {rest : List Stmt}

/-- how the arguments are bound, in whatever way -/
def Binds (s : Shared) (fd : FuncData) (args : Args) (binds : List (Str × Value)) (s' : Shared) : Prop :=
  ∀ (M : Model) (A : Around) (E : Value → Shared → Prop) (Q : List (Str × Value) → Shared → Prop), Q binds s' → wpAny M A (bindArgs fd args) Q E s
theorem Binds.of_eq {fd : FuncData} {args : Args} {binds : List (Str × Value)} (h : bindArgs fd args = pure binds) : Binds s fd args binds s := fun _ _ _ _ hq => h ▸ wpAny_pure hq

theorem code_callX {f : Addr} {o : Obj} {fd : FuncData} {body : List Stmt} {args : Args} {binds : List (Str × Value)} {k : Nat} {M : List Addr} {R : Value → Heap → Prop} {R' : Result → Shared → Prop} {sb : Shared} (Rm : Room A (k + 1)) (hW : Wd K mg mb s.heap) (hlk : K.lookup f = some o) (hdat : o.data = .func fd)
    (hcd : codeIn K fd.code fd.qualname = true) (hbody : fd.body = .stmts body) (hbind : Binds s fd args binds sb) (hsb : Keeps s sb) (hclo : fd.closure = [])
    (hkind : (binds.all fun y => fd.scope.names.lookup y.1 == some .local || fd.scope.names.lookup y.1 == some .cell) = true)
    (hco : fd.scope.isCoroutine = false) (hgen : fd.scope.isGenerator = false) (hk : fd.scope.kind = .function) (hw : WOK W s.heap)
    (hR : ∀ v s', KB M s s' → WOK W s'.heap → R v s'.heap → R' (.ok (.ret v)) s')
    (h : ∀ (L : Addr) (env : Env) (A' : Around) (W' : List Addr) s₁, env = callEnvC fd L f → A' = A.deeper env → Room A' k → L = sb.heap.objs.size → W' = own env ++ W → Fm env { s with heap := Vw M s.heap } W' (bindL env.kindOf binds fun _ => none) (bindC env.kindOf binds fun _ => none) s₁ → Kp (Vw W s.heap) (Vw W' s₁.heap) → Kp sb.heap s₁.heap → (∀ b ∈ own env, s.heap.get? b = none) →
      wpAny (model prog w) A' (execs body env) (fun fl s' => KB M s s' ∧ WOK W s'.heap ∧ R (retv fl) s'.heap) (fun _ _ => False) s₁) : codeAny (model prog w) A (.call (.ref f) args) R' s := by
  refine codeAny_call_function Rm.lt (hW.inK _ _ hlk) hdat hco hgen hbody (codeRec_of hW.inK hcd) (hbind _ _ _ _ ?_)
  rw [hclo]
  refine wpAny_newFunctionEnv_cells hk (kindsX hkind _) fun en hen s₁ x => ?_
  have hen : en = callEnvC fd sb.heap.objs.size f := hen
  have F : Fm en sb (own en ++ W) _ _ s₁ := fm_call x (fun b hb => ?_) (fun b hb => List.mem_append_left _ hb) (by rw [hen]; exact hk)
  · have hkk : Kp s.heap s₁.heap := (kps_kp hsb).trans F.keep
    have hoff : ∀ b ∈ own en, s.heap.get? b = none := fun b hb => none_of (kps_kp hsb) (F.off b hb)
    have FB : Fm en { s with heap := Vw M s.heap } (own en ++ W) (bindL en.kindOf binds fun _ => none) (bindC en.kindOf binds fun _ => none) s₁ := by
      obtain ⟨h1, tk, e1, _⟩ := hsb
      obtain ⟨h2, tk2, e2⟩ := F.same
      exact ⟨⟨h2, tk2, by rw [e2, e1]⟩, F.ns, (vw_kp _ _).trans hkk, fun b hb => none_of (vw_kp _ _) (hoff b hb), F.cell, F.apart, F.above, F.ok, F.own, F.fn⟩
    refine ⟨hW.lim.keeps hkk, codeAny_func ?_⟩
    refine wpAny_mono (h _ en _ _ s₁ hen rfl Rm.deeper rfl rfl FB (fun b o e => ?_) F.keep hoff) (fun fl s' hl => ?_) fun _ _ x => x.elim
    · refine vw_to (hkk b o (vw_of e).1) fun hm => ?_
      rcases List.mem_append.mp hm with hm | hm
      · have := hoff b hm
        rw [(vw_of e).1] at this; cases this
      · exact (vw_of e).2 hm
    · have q := hR _ s' hl.1 hl.2.1 hl.2.2
      cases fl <;> exact q
  · rcases List.mem_append.mp hb with hb | hb
    · rcases List.mem_cons.mp hb with rfl | hb
      · obtain ⟨o, _, _, e, _⟩ := x.toInCall.ns
        exact ⟨_, o, Nat.le_refl _, e⟩
      · obtain ⟨n, _, hn⟩ := List.mem_filterMap.mp hb
        obtain ⟨o, e, _⟩ := x.cell n b hn
        exact ⟨_, o, Nat.le_refl _, e⟩
    · obtain ⟨c, o, l, e⟩ := hw b hb
      exact ⟨c, o, l, x.toInCall.keep c o (kps_kp hsb c o e)⟩

/-- a call whose arguments are bound by eq; what it does is said of M -/
def EvK (prog : Program) (w : World) (M W : List Addr) (A : Around) (f : Addr) (vals : List Value) (kws : List (Str × Value)) (R : Value → Heap → Prop) (s : Shared) : Prop :=
  WOK W s.heap → ∀ (E : Value → Shared → Prop) (Q : Value → Shared → Prop), (∀ v s', KB M s s' → WOK W s'.heap → R v s'.heap → Q v s') → wpAny (model prog w) A (call (.ref f) vals kws) Q E s
theorem ev_callK {f : Addr} {o : Obj} {fd : FuncData} {body : List Stmt} {vals : List Value} {kws : List (Str × Value)} {binds : List (Str × Value)} {k : Nat} {M : List Addr} {R : Value → Heap → Prop} (Rm : Room A (k + 1)) (hW : Wd K mg mb s.heap) (hlk : K.lookup f = some o) (hdat : o.data = .func fd)
    (hcd : codeIn K fd.code fd.qualname = true) (hbody : fd.body = .stmts body) (hbind : bindArgs fd ⟨vals, kws⟩ = pure binds) (hclo : fd.closure = [])
    (hkind : (binds.all fun y => fd.scope.names.lookup y.1 == some .local || fd.scope.names.lookup y.1 == some .cell) = true)
    (hco : fd.scope.isCoroutine = false) (hgen : fd.scope.isGenerator = false) (hk : fd.scope.kind = .function)
    (h : ∀ (L : Addr) (env : Env) (A' : Around) (W' : List Addr) s₁, env = callEnvC fd L f → A' = A.deeper env → Room A' k → L = s.heap.objs.size → W' = own env ++ W → Fm env { s with heap := Vw M s.heap } W' (bindL env.kindOf binds fun _ => none) (bindC env.kindOf binds fun _ => none) s₁ → Kp (Vw W s.heap) (Vw W' s₁.heap) → Kp s.heap s₁.heap → (∀ b ∈ own env, s.heap.get? b = none) →
      wpAny (model prog w) A' (execs body env) (fun fl s' => KB M s s' ∧ WOK W s'.heap ∧ R (retv fl) s'.heap) (fun _ _ => False) s₁) : EvK prog w M W A f vals kws R s :=
  fun hw E Q hQ => wpAny_call (code_callX (R := R) Rm hW hlk hdat hcd hbody (Binds.of_eq hbind) (kps_refl _) hclo hkind hco hgen hk hw (fun v s' k1 k2 k3 => hQ v s' k1 k2 k3) h)

/-! ## Headers -/
abbrev entryOf (hs : Int) (tk : Tok) (l : Addr) : DictEntry := ⟨hs, .str "_headers" tk, .ref l⟩
/-- one Headers, its list at l -/
def HdI (l : Addr) : VP := ⟨fun v h => ∃ x dx hs tk n, v = .ref x ∧ h.get? x = some (instObj 189 dx) ∧ h.get? dx = some (dictOf [entryOf hs tk l] n),
  by
    rintro v h h' k ⟨x, dx, hs, tk, n, e, g1, g2⟩
    exact ⟨x, dx, hs, tk, n, e, k _ _ g1, k _ _ g2⟩⟩
theorem pe_hattr {o : Expr} {l : Addr} (hW : Wd (KK w) mg mb s₀.heap) (ho : PE prog w W A env s₀ o (HdI l))
    (he : eval (.Attribute o "_headers" pos) env = (do
      let o' ← eval o env
      standAt pos.atName
      let r ← holding [o'] (getAttr o' "_headers" true)
      letTemporaryGo o o' r
      pure r) := by rfl) : PE prog w W A env s₀ (.Attribute o "_headers" pos) (Is (.ref l)) := by
  intro s k hw E Q hQ
  refine PyProof.Rows.Attribute_any_ (ho s k hw E _ fun v s1 k1 hv => ?_) he
  obtain ⟨x, dx, hs, tk, n, rfl, g1, g2⟩ := hv
  have X := (hW.mono (kps_kp (kps_trans k k1))).inK
  have I : InstAt s1.heap x (instObj 189 dx) 189 (some (dictOf [entryOf hs tk l] n)) := ⟨(vw_of g1).1, rfl, rfl, (vw_of g2).1⟩
  exact get_value X I (plainGet_of (name := "_headers") (K := KK w) (C := 189) rfl).1 (findObj_own (K := KK w) rfl rfl rfl (by rfl)) rfl (hQ _ _ (kps_trans k1 kps_tok) rfl)
end
end Mine
set_option maxRecDepth 100000
set_option maxHeartbeats 4000000
set_option linter.unusedVariables false
namespace Mine
open PySem PySem.Spec PySem.Calls PyProof.Rows PySem.W
theorem slot_search : Slot "re.Pattern" "search" "re.Pattern.search" :=
  .of (owner := "re.Pattern") (n := "search") (by rw [typeLookup_type, builtinLookup_eq_fast]; kernel_rfl) (by decide +kernel) (by decide +kernel) (by decide +kernel)
    (by first | exact .inl (by decide +kernel) | exact .inr (by decide +kernel)) (by rw [isSubtype_type]; kernel_rfl)
theorem type_search : typeOf (.builtin "re.Pattern.search") = pure (.type "method_descriptor") := by show builtinType _ = _; rw [builtinType_eq_fast]; kernel_rfl
theorem entry_search : entryFor table "re.Pattern.search" = some Builtin.«re.Pattern.search» := entryFor_of_tree (by kernel_rfl)
theorem args_search (a b : Value) : argsOk "re.Pattern.search" ⟨[a, b], []⟩ := by unfold argsOk; kernel_rfl
theorem plainAttrs_pattern : PlainAttrs "re.Pattern" :=
  ⟨⟨"object.__getattribute__", by rw [typeLookup_type, builtinLookup_eq_fast]; kernel_rfl, by decide +kernel⟩, by rw [typeLookup_type, builtinLookup_eq_fast]; kernel_rfl⟩
end Mine
set_option maxRecDepth 100000
set_option maxHeartbeats 4000000
set_option linter.unusedVariables false
namespace Mine
open PySem PySem.Spec PySem.Calls PyProof.Rows PySem.W

/-- the machine's turns -/
def stepsTo : Nat → Sre.M → Option Sre.M
  | 0, m => none
  | k + 1, m => if (m.runFor 4).outcome.isSome then some (m.runFor 4) else stepsTo k (m.runFor 4)
def fails (m : Sre.M) : Bool := match stepsTo 60 m with
  | some mf => (match mf.outcome with | some .failed => true | _ => false)
  | none => false
def code1 : Array Nat := #[14, 10, 4, 1, 1, 22, 0, 31, 16, 127, 0, 13, 7, 22, 0, 31, 16, 127, 0, 1]
def code2 : Array Nat := #[14, 14, 4, 1, 1, 9, 4294966783, 0, 0, 2147483648, 0, 0, 0, 0, 0, 13, 11, 9, 4294966783, 0, 0, 2147483648, 0, 0, 0, 0, 0, 1]
def miss (c : Array Nat) (t : Str) : Bool := fails (Sre.forSearch c t.cps 0 0 t.cps.size false)
def names12 : List Str := [abc 0, abc 1, abc 2, aBC 0, aBC 1, aBC 2] ++ [0, 1, 2].map (fun i => abc i ++ "-" ++ abc i) ++ [0, 1, 2].map (fun i => abc i ++ "-" ++ aBC i)
def texts14 : List Str := [xy 0, xy 1] ++ posts12
theorem miss1 : ∀ x ∈ names12, miss code1 x = true := by decide +kernel
theorem miss2 : ∀ x ∈ texts14, miss code2 x = true := by decide +kernel

section
variable {prog : Program} {w : World} {W : List Addr} {A : Around} {env : Env} {s₀ s : Shared} {mg mb : Str → Option Value} {v v' : Value}
theorem wp_drive {M : Model} {E : Value → Shared → Prop} : ∀ (k t : Nat) (m mf : Sre.M) (Q : Sre.M → Shared → Prop), k ≤ t → stepsTo k m = some mf → Q mf s → wpAny M A (Builtin.Re.reDrive t m) Q E s
  | 0, _, m, mf, Q, _, h, _ => by cases h
  | k + 1, 0, _, _, _, h, _, _ => absurd h (Nat.not_succ_le_zero k)
  | k + 1, t + 1, m, mf, Q, hk, h, hQ => by
    unfold Builtin.Re.reDrive
    unfold stepsTo at h
    show wpAny M A (if (m.runFor 4).outcome.isSome then pure (m.runFor 4) else (rule "sre.turn" >>= fun _ => Builtin.Re.reDrive t (m.runFor 4))) Q E s
    by_cases hs : (m.runFor 4).outcome.isSome = true
    · rw [if_pos hs] at h ⊢
      cases h
      exact wpAny_pure hQ
    · rw [if_neg hs] at h ⊢
      exact wpAny_bind (wpAny_rule (wp_drive k t _ _ _ (by omega) h hQ))
theorem wp_runToEnd {M : Model} {E : Value → Shared → Prop} {m : Sre.M} {Q : Option Sre.M → Shared → Prop} (h : fails m = true) (hQ : Q none s) : wpAny M A (Builtin.Re.reRunToEnd m) Q E s := by
  unfold fails at h
  cases hs : stepsTo 60 m with
  | none => rw [hs] at h; cases h
  | some mf =>
    rw [hs] at h
    dsimp only at h
    unfold Builtin.Re.reRunToEnd
    refine wpAny_bind (wp_drive 60 _ m mf _ (by decide) hs ?_)
    refine wpAny_bind (wpAny_forIn_list _ (fun _ _ s' => s' = s) _ (fun x rest b s' hs' => ?_) (fun b s' hs' => ?_) _ _ rfl)
    · split
      · exact wpAny_bind (wpAny_rule (wpAny_pure hs'))
      · exact wpAny_pure hs'
    · subst hs'
      cases ho : mf.outcome with
      | none => rw [ho] at h; cases h
      | some o =>
        rw [ho] at h
        cases o with
        | failed => exact wpAny_pure hQ
        | _ => cases h
end
end Mine
set_option maxRecDepth 100000
set_option maxHeartbeats 4000000
set_option linter.unusedVariables false
namespace Mine
open PySem PySem.Spec PySem.Calls PyProof.Rows PySem.W
section
variable {prog : Program} {w : World} {W : List Addr} {A : Around} {env : Env} {s₀ s : Shared} {mg mb : Str → Option Value} {v v' : Value}
/-- a pattern object of this code -/
structure Pat (h : Heap) (p : Addr) (c : Array Nat) : Prop where
  obj : ∃ a b d e q, h.get? p = some { cls := .type "re.Pattern", data := .fields #[a, b, .int 0 0, d, e, .ref q, .int 0 0] } ∧ ∃ o items n, h.get? q = some o ∧ o.data = .seq items n ∧ (items.map Builtin.Re.reRawOf).map (·.toNat) = c
theorem pat1 {h : Heap} (X : (KK w).In h) : Pat h 55 code1 := ⟨_, _, _, _, _, X 55 _ (by rfl), _, _, _, X 54 _ (by rfl), rfl, by decide +kernel⟩
theorem pat2 {h : Heap} (X : (KK w).In h) : Pat h 60 code2 := ⟨_, _, _, _, _, X 60 _ (by rfl), _, _, _, X 59 _ (by rfl), rfl, by decide +kernel⟩
theorem call_search {p : Addr} {c : Array Nat} {t : Str} {tk : Tok} {Q : Value → Shared → Prop} {E : Value → Shared → Prop} (hp : Pat s.heap p c) (hm : miss c t = true) (hl : t.cps.size ≤ 1000) (hQ : Q .none s) : wpAny (model prog w) A (call (.builtin "re.Pattern.search") [.ref p, .str t tk]) Q E s := by
  obtain ⟨a, b, d, e, q, h1, o, items, n, h2, h3, h4⟩ := hp
  have g : Meets (Builtin.«re.Pattern.search» ⟨[.ref p, .str t tk], []⟩) (fun A R s' => s' = s ∧ R (.ok (.ret .none)) s') := .of_wp fun prog w A R s' hs => by
    obtain ⟨rfl, hs⟩ := hs
    show wpAny _ _ (Builtin.Re.reTarget "re.Pattern.search" "search" ⟨[.ref p, .str t tk], []⟩ >>= _) _ _ _
    refine wpAny_bind ?_
    unfold Builtin.Re.reTarget
    have hn : Builtin.Re.reNamed "re.Pattern.search" "search" ["string", "pos", "endpos"] 1 [.str t tk] [] = pure [some (.str t tk), none, none] := by rfl
    dsimp only
    refine wpAny_bind (wpAny_of_eq hn ?_)
    dsimp only
    refine wpAny_bind (wpAny_pure (wpAny_bind (wpAny_pure ?_)))
    refine wpAny_bind (wpAny_fieldsOf h1 rfl ?_)
    refine wpAny_bind (wpAny_of_eq (a := (t.cps, 0)) rfl ?_)
    dsimp only
    rw [if_neg (show ¬ ((Builtin.Re.reRawNat ((#[a, b, .int 0 0, d, e, .ref q, .int 0 0] : Array Value).getD 6 .none) == 0 && (0 : Nat) == 1) = true) from Bool.false_ne_true)]
    rw [if_neg (show ¬ ((Builtin.Re.reRawNat ((#[a, b, .int 0 0, d, e, .ref q, .int 0 0] : Array Value).getD 6 .none) == 1 && (0 : Nat) == 0) = true) from Bool.false_ne_true)]
    refine wpAny_bind (wpAny_of_eq (a := ()) rfl ?_)
    show wpAny _ _ (Builtin.Re.reRawItems (.ref q) >>= _) _ _ _
    refine wpAny_bind ?_
    unfold Builtin.Re.reRawItems
    refine wpAny_bind (wpAny_seqItems h2 h3 (wpAny_pure (wpAny_pure ?_)))
    dsimp only [Option.getD]
    rw [h4]
    have hlim : min ((2 ^ 63 - 1 : Int)).toNat t.cps.size = t.cps.size := by omega
    have h0 : min (Int.toNat 0) t.cps.size = 0 := by omega
    rw [hlim, h0]
    unfold Builtin.Re.reAnswer
    exact wpAny_bind (wp_runToEnd hm (wpAny_pure ⟨_, rfl, hs⟩))
  exact call_meets slot_search ⟨_, h1, rfl⟩ entry_search (args_search _ _) g ⟨rfl, hQ⟩
end
end Mine
set_option maxRecDepth 100000
set_option maxHeartbeats 4000000
set_option linter.unusedVariables false
namespace Mine
open PySem PySem.Spec PySem.Calls PyProof.Rows PySem.W
section
variable {prog : Program} {w : World} {W : List Addr} {A : Around} {env : Env} {s₀ s : Shared} {mg mb : Str → Option Value} {v v' : Value}
theorem pat_of {h : Heap} {nm : Bool} (X : (KK w).In h) : Pat h (if nm then 55 else 60) (if nm then code1 else code2) := by
  cases nm
  · exact pat2 X
  · exact pat1 X
theorem pe_ifexp {test body orelse : Expr} {pos : Pos} {b : Bool} {P : VP} (ht : PT prog w W A env s₀ test b) (h1 : b = true → PE prog w W A env s₀ body P) (h2 : b = false → PE prog w W A env s₀ orelse P) : PE prog w W A env s₀ (.IfExp test body orelse pos) P := by
  intro s k hw E Q hQ
  refine wpAny_IfExp (ht s k hw E _ fun s1 k1 => ?_)
  cases b with
  | true => simpa using h1 rfl s1 (kps_trans k k1) (hw.mono (kps_kp k1)) E Q fun v s' k' hv => hQ v s' (kps_trans k1 k') hv
  | false => simpa using h2 rfl s1 (kps_trans k k1) (hw.mono (kps_kp k1)) E Q fun v s' k' hv => hQ v s' (kps_trans k1 k') hv
theorem pt_none {e : Expr} (h : PE prog w W A env s₀ e (D .none)) (he : ∀ whole : Sem Value, isTrue e env whole = (do let v ← whole; standAt e.pos; holding [v] (truthy v)) := by intro _; rfl) : PT prog w W A env s₀ e false := fun s k hw E Q hQ =>
  isTrue_plain (h s k hw E _ fun v s1 k1 hv => by rw [d_none hv]; exact PyProof.Rows.truthy_none (hQ _ k1)) (he _)
theorem conv_ok {t : Str} {tk : Tok} {nm : Bool} (R : Room A 1) (hWv : Wd (KK w) mg mb (Vw W s.heap)) (hm : miss (if nm then code1 else code2) t = true) (hl : t.cps.size ≤ 1000) :
    EvK prog w [] W A 90 [v, .str t tk] [("name", .bool nm)] (fun u _ => u = .str t tk) s := by
  have hW := hWv.mono (vw_kp _ _)
  refine ev_callK (K := KK w) R hW rfl rfl rfl rfl rfl rfl rfl rfl rfl rfl ?_
  intro L env A' W' s₁ he hA' R' hL hW' F kv kk hoff
  have hok : WOK W' s₁.heap := F.ok
  have hWs : ∀ b ∈ W, b ∈ W' := fun b hb => hW' ▸ List.mem_append_right _ hb
  clear hA' hW' R
  subst he
  have hW1 := hW.mono kk
  have hW0 : Wd (KK w) mg mb (Vw W' s₁.heap) := hWv.mono kv
  refine st_if F (b := true) (pt_cmp (P1 := Is (.type "str")) (P2 := Is (.type "str")) (pe_call_type (pe_built hW1 rfl PyProof.Rows.boot_type) (pes_cons (pe_name (ld_local F (x := "value") (P := Is (.str t tk)) rfl rfl)) pes_nil) (fun vs s' k h => ?_)) (pe_built hW1 rfl PyProof.Rows.boot_str) (fun a b s' ha hb => ?_)) (fun _ s2 F2 k2 => ?_) (fun hb => nomatch hb)
  · obtain ⟨⟩ | ⟨h1, h2⟩ := h
    cases h2
    rw [show _ = Value.str t tk from h1]
    exact fun _ E Q hQ => PySem.call_type_of (Tx := "str") rfl rfl (hQ _ _ (kps_refl _) rfl)
  · rw [show a = .type "str" from ha, show b = .type "str" from hb]
    exact fun _ E Q hQ => wpAny_is_self rfl (hQ _ _ (kps_refl _) (d_ofBool _ _))
  · have hW2 := hW1.mono (kps_kp k2)
    refine st_localK F2 (P := Is (.ref (if nm then 55 else 60))) (pe_ifexp (b := nm) (pt_bool (pe_name (ld_local F2 (x := "name") (P := D (.bool nm)) rfl (d_ofBool _ _)))) (fun h => ?_) (fun h => ?_)) fun vr s3 F3 k3 hvr => ?_
    · subst h; exact pe_global hW2 rfl
    · subst h; exact pe_global hW2 rfl
    · have hW3 : Wd (KK w) mg mb s3.heap := (hW0.mono (vw_mono (kps_kp k2))).mono (kb_vw (by intro b hb; rw [List.mem_singleton.mp hb]; exact F2.loc) k3) |>.mono (vw_kp _ _)
      refine st_if F3 (b := false) (pt_none (pe_methK (T := "re.Pattern") (P1 := Is (.ref (if nm then 55 else 60))) (Ps := [Is (.str t tk)]) (pe_name (ld_local F3 (x := "regex") rfl hvr)) (pes_cons (pe_name (ld_local F3 (x := "value") (P := Is (.str t tk)) rfl rfl)) pes_nil) plainAttrs_pattern slot_search type_search (fun v s' k hv => ?_) (fun v vs s' k hv hvs => ?_))) (fun hb => nomatch hb) (fun _ s4 F4 k4 => ?_)
      · rw [show v = _ from hv]
        obtain ⟨_, _, _, _, _, h1, _⟩ := (pat_of (nm := nm) (hW3.mono (kps_kp k)).inK).obj
        exact ⟨⟨_, h1, rfl⟩, fun a e => by cases e; exact ⟨_, h1, rfl⟩⟩
      · rw [show v = _ from hv]
        obtain ⟨⟩ | ⟨h1, h2⟩ := hvs
        cases h2
        rw [show _ = Value.str t tk from h1]
        exact fun _ E Q hQ => call_search (pat_of (nm := nm) (hW3.mono (kps_kp k)).inK) hm hl (hQ _ _ (kps_refl _) (d_ofNone _))
      · refine wpAny_execs_nil ?_
        refine st_return F4 (P := Is (.str t tk)) (pe_name (ld_local F4 (x := "value") rfl rfl)) fun v s5 F5 k5 hv => ⟨F5.done, fun b hb => F5.ok b (hWs b hb), hv⟩
theorem conv_name {t : Str} {tk : Tok} (R : Room A 1) (hWv : Wd (KK w) mg mb (Vw W s.heap)) (hm : miss code1 t = true) (hl : t.cps.size ≤ 1000) : EvK prog w [] W A 90 [v, .str t tk] [("name", .bool true)] (fun u _ => u = .str t tk) s :=
  conv_ok (nm := true) R hWv (by rw [if_pos rfl]; exact hm) hl
theorem conv_text {t : Str} {tk : Tok} (R : Room A 1) (hWv : Wd (KK w) mg mb (Vw W s.heap)) (hm : miss code2 t = true) (hl : t.cps.size ≤ 1000) : EvK prog w [] W A 90 [v, .str t tk] [("name", .bool false)] (fun u _ => u = .str t tk) s :=
  conv_ok (nm := false) R hWv (by rw [if_neg Bool.false_ne_true]; exact hm) hl
end
end Mine
set_option maxRecDepth 100000
set_option maxHeartbeats 4000000
set_option linter.unusedVariables false
namespace Mine
open PySem PySem.Spec PySem.Calls PyProof.Rows PySem.W
section
variable {prog : Program} {w : World} {W : List Addr} {A : Around} {env : Env} {s₀ s : Shared} {mg mb : Str → Option Value} {v v' : Value} {o e : Expr} {name : Str} {apos pos kp : Pos} {args rest : List Expr} {kws : List Keyword} {l f : Addr} {Ps : List VP} {P : VP}
  {Q E : Value → Shared → Prop} {pl : Sem Bool} {nm : Str} {kv : Expr}

theorem wp_hcall (hw : WOK W s.heap) (hW : Wd (KK w) mg mb s.heap) (ho : PE prog w W A env s o (HdI l)) (hf : findIn (KK w) (.ref 189) name = some (some (.ref f))) (ht : isFn (KK w) (.ref f) = true) (hnm : ∀ hs tk, getL name [entryOf hs tk l] = some none)
    (h : ∀ x s1, Keeps s s1 → (HdI l).p (.ref x) (Vw W s1.heap) → wpAny (model prog w) A (callWith pos (.ref f) [.ref x] (backTo pos (starEach args env)) (backToKw pos (keywordEach kws env))) Q E s1)
    (he : eval (.Call (.Attribute o name apos) args kws pos) env = (do
      let ov ← eval o env
      standAt apos.atName
      let (f, first) ← holding [ov] (getMethod ov name pl)
      callWith pos f first (backTo pos (starEach args env)) (backToKw pos (keywordEach kws env)))) : wpAny (model prog w) A (eval (.Call (.Attribute o name apos) args kws pos) env) Q E s := by
  refine methodCall_KW (ho s (kps_refl s) hw E _ fun v s1 k1 hv => ?_) he
  have hv' := hv
  obtain ⟨x, dx, hs, tk, n, rfl, g1, g2⟩ := hv
  have X := (hW.mono (kps_kp k1)).inK
  have I : InstAt s1.heap x (instObj 189 dx) 189 (some (dictOf [entryOf hs tk l] n)) := ⟨(vw_of g1).1, rfl, rfl, (vw_of g2).1⟩
  refine method_fn X I (plainGet_of (name := name) (K := KK w) (C := 189) rfl).1 (plainGet_of (name := name) (K := KK w) (C := 189) rfl).2 hf (beq_iff_eq.mp ht) (by show (lookIn name (dictOf [entryOf hs tk l] n)).map _ = _; rw [lookIn_dict, hnm]; rfl) (h x s1 k1 hv')

/-- o.name(e, ..) -/
theorem wp_hm (hw : WOK W s.heap) (hW : Wd (KK w) mg mb s.heap) (ho : PE prog w W A env s o (HdI l)) (ha : PEs prog w W A env s (e :: rest) Ps) (hf : findIn (KK w) (.ref 189) name = some (some (.ref f))) (ht : isFn (KK w) (.ref f) = true) (hk : keepIn (KK w) (.ref f) = true) (hnm : ∀ hs tk, getL name [entryOf hs tk l] = some none)
    (h : ∀ x vs s1, Keeps s s1 → (HdI l).p (.ref x) (Vw W s1.heap) → VAll (Vw W s1.heap) Ps vs → wpAny (model prog w) A (call (.ref f) (.ref x :: vs)) Q E s1)
    (he : eval (.Call (.Attribute o name apos) (e :: rest) [] pos) env = (do
      let ov ← eval o env
      standAt apos.atName
      let (f, first) ← holding [ov] (getMethod ov name pl)
      callWith pos f first (backTo pos (starEach (e :: rest) env)) (backToKw pos (keywordEach [] env))) := by rfl)
    (hse : starEach (e :: rest) env = (false, eval e env) :: starEach rest env := by rfl) (hpl : (backTo pos (starEach rest env)).any (·.1) = false := by rfl) : wpAny (model prog w) A (eval (.Call (.Attribute o name apos) (e :: rest) [] pos) env) Q E s := by
  refine wp_hcall hw hW ho hf ht hnm (fun x s1 k1 hx => ?_) he
  refine callWith_K (hW.mono (kps_kp k1)).inK hk (ha s1 k1 (hw.mono (kps_kp k1)) _ E _ fun vs s2 k2 hvs => ⟨(hW.mono (kps_kp (kps_trans k1 k2))).inK, ?_⟩) hse hpl
  exact h x vs s2 (kps_trans k1 k2) (VP.mono _ (vw_mono (kps_kp k2)) hx) hvs
/-- o.name() -/
theorem wp_hm0 (hw : WOK W s.heap) (hW : Wd (KK w) mg mb s.heap) (ho : PE prog w W A env s o (HdI l)) (hf : findIn (KK w) (.ref 189) name = some (some (.ref f))) (ht : isFn (KK w) (.ref f) = true) (hk : keepIn (KK w) (.ref f) = true) (hnm : ∀ hs tk, getL name [entryOf hs tk l] = some none)
    (h : ∀ x s1, Keeps s s1 → (HdI l).p (.ref x) (Vw W s1.heap) → wpAny (model prog w) A (call (.ref f) [.ref x]) Q E s1)
    (he : eval (.Call (.Attribute o name apos) [] [] pos) env = (do
      let ov ← eval o env
      standAt apos.atName
      let (f, first) ← holding [ov] (getMethod ov name pl)
      callWith pos f first (backTo pos (starEach [] env)) (backToKw pos (keywordEach [] env))) := by rfl) : wpAny (model prog w) A (eval (.Call (.Attribute o name apos) [] [] pos) env) Q E s := by
  refine wp_hcall hw hW ho hf ht hnm (fun x s1 k1 hx => ?_) he
  exact callWith_K0 (hW.mono (kps_kp k1)).inK hk (h x s1 k1 hx)
/-- o.name(e, nm=kv) -/
theorem wp_hmk {b : Bool} (hw : WOK W s.heap) (hW : Wd (KK w) mg mb s.heap) (ho : PE prog w W A env s o (HdI l)) (ha : PE prog w W A env s e P) (hb : PE prog w W A env s kv (D (.bool b))) (hf : findIn (KK w) (.ref 189) name = some (some (.ref f))) (ht : isFn (KK w) (.ref f) = true) (hk : keepIn (KK w) (.ref f) = true) (hnm : ∀ hs tk, getL name [entryOf hs tk l] = some none)
    (h : ∀ x u s1, Keeps s s1 → (HdI l).p (.ref x) (Vw W s1.heap) → P.p u (Vw W s1.heap) → wpAny (model prog w) A (call (.ref f) [.ref x, u] [(nm, .bool b)]) Q E s1)
    (he : eval (.Call (.Attribute o name apos) [e] [⟨some nm, kv, kp⟩] pos) env = (do
      let ov ← eval o env
      standAt apos.atName
      let (f, first) ← holding [ov] (getMethod ov name pl)
      callWith pos f first (backTo pos (starEach [e] env)) (backToKw pos (keywordEach [⟨some nm, kv, kp⟩] env))) := by rfl)
    (hall : (backToKw pos (keywordEach [⟨some nm, kv, kp⟩] env)).all (·.1.isSome) = true := by rfl) (hpl : ((backTo pos (starEach [e] env)).any (·.1) || (backToKw pos (keywordEach [⟨some nm, kv, kp⟩] env)).any (·.1.isNone)) = false := by rfl) (hse : starEach [e] env = [(false, eval e env)] := by rfl) :
    wpAny (model prog w) A (eval (.Call (.Attribute o name apos) [e] [⟨some nm, kv, kp⟩] pos) env) Q E s := by
  refine wp_hcall hw hW ho hf ht hnm (fun x s1 k1 hx => ?_) he
  have hok1 := hw.mono (kps_kp k1)
  have pes : PEs prog w W A env s [e] [P] := pes_cons ha pes_nil hse
  refine callWith_KW (hW.mono (kps_kp k1)).inK hk hall (pes s1 k1 hok1 _ E _ fun vs s2 k2 hvs => ?_) hpl hse
  obtain ⟨⟩ | ⟨hu, hvs⟩ := hvs
  cases hvs
  refine kwAll_cons (hb s2 (kps_trans k1 k2) (hok1.mono (kps_kp k2)) E _ fun v3 s3 k3 hv3 => kwAll_nil ⟨(hW.mono (kps_kp (kps_trans (kps_trans k1 k2) k3))).inK, ?_⟩)
  rw [d_bool hv3]
  exact h x _ s3 (kps_trans (kps_trans k1 k2) k3) (VP.mono _ (vw_mono (kps_kp (kps_trans k2 k3))) hx) (VP.mono _ (vw_mono (kps_kp k3)) hu)
end
end Mine
set_option maxRecDepth 100000
set_option maxHeartbeats 4000000
set_option linter.unusedVariables false
namespace Mine
open PySem PySem.Spec PySem.Calls PyProof.Rows PySem.W
abbrev pairV (p : Str × Str) : VP := TpV [D (.str p.1), D (.str p.2)]
/-- what a name and a text may be -/
structure Fine (p : Str × Str) : Prop where
  low : PyData.strOk (Txt.lower p.1) = true
  len : p.1.length ≤ 5592405
  o1 : PyData.strOk p.1 = true
  o2 : PyData.strOk p.2 = true
/-- a name asked for -/
structure Nameable (nm : Str) : Prop where
  low : PyData.strOk (Txt.lower nm) = true
  len : nm.length ≤ 5592405
  miss : miss code1 (Txt.lower nm) = true
  len' : (Txt.lower nm).cps.size ≤ 1000
section
variable {prog : Program} {w : World} {W : List Addr} {A : Around} {env : Env} {s₀ s : Shared} {mg mb : Str → Option Value} {v v' : Value} {l : Addr} {ps : List (Str × Str)} {nm : Str}
theorem all_ok (R : Room A 2) (hW : Wd (KK w) mg mb (Vw W s.heap)) (hv : (HdI l).p v (Vw W s.heap)) (hn : (D (.str nm)).p v' (Vw W s.heap)) (hM : Mu W l (ps.map pairV) s.heap) (N : Nameable nm) (hps : ∀ p ∈ ps, Fine p) (hsz : ps.length ≤ sizeLine) :
    EvK prog w [] W A 128 [v, v'] [] (fun u h' => (LsF s.heap ((ps.filter fun p => Txt.lower p.1 == Txt.lower nm).map fun p => D (.str p.2))).p u (Vw W h')) s := by
  refine ev_callK (K := KK w) R (hW.mono (vw_kp _ _)) rfl rfl rfl rfl rfl rfl rfl rfl rfl rfl ?_
  intro L env A' W' s₁ he hA' R' hL hW' F kv kk hoff
  have hWs : ∀ b ∈ W, b ∈ W' := fun b hb => hW' ▸ List.mem_append_right _ hb
  have hl : l ∉ own env := fun hb => by obtain ⟨us, ⟨n, g⟩, r⟩ := hM; rw [hoff l hb] at g; cases g
  have hlc : ∀ {n : Str} {c : Addr}, env.cells.lookup n = some c → l ∉ [c] := fun h q => hl (by rw [List.mem_singleton.mp q]; exact mem_own_cell h)
  clear hA' hW' R
  subst he
  have hW1 := hW.mono kv
  have v1 := VP.mono _ kv hv
  have n1 := VP.mono _ kv hn
  have M1 : Mu W' l (ps.map pairV) s₁.heap := hM.go (fun o => kk _ o) kv
  refine st_assign (wp_hmk (b := true) (P := D (.str (Txt.lower nm))) F.ok (hW1.mono (vw_kp _ _)) (pe_name (ld_local F (x := "self") rfl v1))
    (pe_meth (P1 := D (.str nm)) (pe_name (ld_cell F (x := "name") rfl rfl n1)) pes_nil PySem.F.plainAttrs_str PySem.F.slot_str_lower PySem.F.type_str_lower callee_str (fun v vs s _ h1 h2 => call_lower rfl N.len v vs s h1 h2)) pe_bool rfl rfl rfl (fun _ _ => by rfl) fun x u s2 k2 hx hu => ?_)
  obtain ⟨tk, rfl⟩ := d_str hu
  refine conv_name R' (hW1.mono (vw_mono (kps_kp k2))) N.miss N.len' (F.ok.mono (kps_kp k2)) _ _ fun u s3 k3 ok3 hu3 => ?_
  subst hu3
  have k23 : Keeps s₁ s3 := kps_trans k2 k3
  have F3 := F.keeps k23
  refine store_cell F3 rfl (fun s4 F4 k4 => ?_) rfl
  have kvc : Kp (Vw W' s3.heap) (Vw W' s4.heap) := kb_vw (by intro b hb; rw [List.mem_singleton.mp hb]; exact F3.cel (n := "name") rfl) k4
  have kv4 := (vw_mono (W := W') (kps_kp k23)).trans kvc
  have v4 := VP.mono _ kv4 v1
  have M4 : Mu W' l (ps.map pairV) s4.heap := M1.go (fun o q => kb_get k4 (hlc (n := "name") rfl) o (kps_kp k23 _ _ q)) kv4
  have hW4 := hW1.mono kv4
  refine st_return F4 (P := LsF s.heap ((ps.filter fun p => Txt.lower p.1 == Txt.lower nm).map fun p => D (.str p.2))) ?_ fun u s5 F5 k5 hp => ⟨F5.done, fun b hb => F5.ok b (hWs b hb), VP.mono _ (vw_sub hWs) hp⟩
  refine (pe_lc1F ps (Pit := Is (.ref l)) (Pf := pairV) (fun p => Txt.lower p.1 == Txt.lower nm) (pe_hattr (hW4.mono (vw_kp _ _)) (pe_name (ld_local F4 (x := "self") rfl v4))) (fun v s' k hv => by rw [show v = .ref l from hv]; exact src_mu R'.hd (M4.mono (kps_kp k))) hsz ?_).sub fun v h hv => LsF.less hv ?_
  · intro p hp W2 C s5 k5 kv5 ok5 hld
    have P := hps p hp
    refine ⟨?_, fun _ => pe_sub (pe_name hld) (pe_nat (i := 1)) (sub_tuple rfl (by decide))⟩
    refine pt_cmp (P1 := D (.str (Txt.lower p.1))) (P2 := D (.str (Txt.lower nm))) ?_ (pe_name (ld_free F4 k5 kv5 rfl rfl (d_ofStr _ _ _))) (op_eq_str P.low N.low R'.un)
    exact pe_meth (P1 := D (.str p.1)) (pe_sub (pe_name hld) (pe_nat (i := 0)) (sub_tuple rfl (by decide))) pes_nil PySem.F.plainAttrs_str PySem.F.slot_str_lower PySem.F.type_str_lower callee_str (fun v vs s _ h1 h2 => call_lower rfl P.len v vs s h1 h2)
  · exact F4.keep
end
end Mine
set_option maxRecDepth 100000
set_option maxHeartbeats 4000000
set_option linter.unusedVariables false
namespace Mine
open PySem PySem.Spec PySem.Calls PyProof.Rows PySem.W
section
variable {prog : Program} {w : World} {W : List Addr} {A : Around} {env : Env} {s₀ s : Shared} {mg mb : Str → Option Value} {v v' : Value} {l : Addr} {ps : List (Str × Str)} {nm : Str} {Ps : List VP} {value : Expr} {p pos : Pos}
theorem pe_allK (hv : PE prog w W A env s₀ value (Is (.ref l))) (hM : Mu W l Ps s₀.heap) (hsz : Ps.length ≤ sizeLine) : PE prog w W A env s₀ (.Subscript value (.Slice none none none p) pos) (LsF s₀.heap Ps) := by
  intro s k hw E Q hQ
  refine wp_slice_list (ops := fun o i => [i, o]) (fun _ _ => rfl) (hv s k hw E _ fun o s1 k1 ho => ?_)
  rw [evalPart_none]
  rw [show o = .ref l from ho]
  obtain ⟨vs, ⟨n, g⟩, r⟩ := hM.mono (kps_kp (kps_trans k k1))
  have hl : s1.heap.IsList l vs := ⟨_, g, rfl, n, rfl⟩
  refine wpAny_pure (wpAny_pure (wpAny_pure ⟨l, vs, none, none, none, rfl, hl, by rw [← r.length] at hsz; simpa using hsz, .none, .none, .none, by simp, ?_⟩))
  have kp : Kp s1.heap ((s1.heap.push { cls := .type "slice", data := .fields #[.none, .none, .none] }).push { cls := .type "list", data := .seq (slicePick vs none none none) }) := fun b o e => Heap.get?_push_of_some _ (Heap.get?_push_of_some _ e)
  have hn : s1.heap.get? (s1.heap.objs.size + 1 : Nat) = none := get_size_none _ (Nat.le_succ _)
  refine hQ _ _ (kps_trans k1 (kps_heap kp)) ⟨(s1.heap.objs.size + 1 : Nat), 0, slicePick vs none none none, rfl, none_of ((kps_kp k).trans (kps_kp k1)) hn, vw_to (o := { cls := .type "list", data := .seq (slicePick vs none none none) }) ?_ ((hw.mono (kps_kp k1)).fresh (Nat.le_succ _)), ?_⟩
  · have e := Heap.get?_push_size (s1.heap.push { cls := .type "slice", data := .fields #[.none, .none, .none] }) (o := { cls := .type "list", data := .seq (slicePick vs none none none) }) rfl
    rw [Heap.size_push] at e
    exact e
  · rw [show (slicePick vs none none none).toList = vs.toList by rw [slicePick_all]]
    refine VAll.mono (h := Vw W s1.heap) ?_ r
    intro b o e
    refine vw_to (vw_mono kp b o e) fun q => ?_
    rw [List.mem_singleton.mp q] at e
    have := (vw_of e).1
    rw [hn] at this; cases this
theorem items_ok (R : Room A 1) (hW : Wd (KK w) mg mb (Vw W s.heap)) (hv : (HdI l).p v (Vw W s.heap)) (hM : Mu W l (ps.map pairV) s.heap) (hsz : ps.length ≤ sizeLine) :
    EvK prog w [] W A 153 [v] [] (fun u h' => (LsF s.heap (ps.map pairV)).p u (Vw W h')) s := by
  refine ev_callK (K := KK w) R (hW.mono (vw_kp _ _)) rfl rfl rfl rfl rfl rfl rfl rfl rfl rfl ?_
  intro L env A' W' s₁ he hA' R' hL hW' F kv kk hoff
  have hWs : ∀ b ∈ W, b ∈ W' := fun b hb => hW' ▸ List.mem_append_right _ hb
  clear hA' hW' R
  subst he
  have hW1 := hW.mono kv
  have v1 := VP.mono _ kv hv
  have M1 : Mu W' l (ps.map pairV) s₁.heap := hM.go (fun o => kk _ o) kv
  refine st_return F (P := LsF s.heap (ps.map pairV)) ?_ fun u s5 F5 k5 hp => ⟨F5.done, fun b hb => F5.ok b (hWs b hb), VP.mono _ (vw_sub hWs) hp⟩
  exact (pe_allK (pe_hattr (hW1.mono (vw_kp _ _)) (pe_name (ld_local F (x := "self") rfl v1))) M1 (by rw [List.length_map]; exact hsz)).sub fun v h hv => LsF.less hv kk
theorem len_ok (R : Room A 1) (hW : Wd (KK w) mg mb (Vw W s.heap)) (hv : (HdI l).p v (Vw W s.heap)) (hM : Mu W l (ps.map pairV) s.heap) (hsz : ps.length ≤ sizeLine) :
    EvK prog w [] W A 97 [v] [] (fun u h' => (D (.int (ps.length : Nat))).p u (Vw W h')) s := by
  refine ev_callK (K := KK w) R (hW.mono (vw_kp _ _)) rfl rfl rfl rfl rfl rfl rfl rfl rfl rfl ?_
  intro L env A' W' s₁ he hA' R' hL hW' F kv kk hoff
  have hWs : ∀ b ∈ W, b ∈ W' := fun b hb => hW' ▸ List.mem_append_right _ hb
  clear hA' hW' R
  subst he
  have hW1 := hW.mono kv
  have v1 := VP.mono _ kv hv
  have M1 : Mu W' l (ps.map pairV) s₁.heap := hM.go (fun o => kk _ o) kv
  refine st_return F (P := D (.int (ps.length : Nat))) (pe_call_builtin (Ps := [Is (.ref l)]) (pe_built (hW1.mono (vw_kp _ _)) rfl boot_len) (pes_cons (pe_hattr (hW1.mono (vw_kp _ _)) (pe_name (ld_local F (x := "self") rfl v1))) pes_nil) (fun vs s' k hvs => ?_)) fun u s5 F5 k5 hp => ⟨F5.done, fun b hb => F5.ok b (hWs b hb), VP.mono _ (vw_sub hWs) hp⟩
  obtain ⟨⟩ | ⟨h1, h2⟩ := hvs
  cases h2
  rw [show _ = Value.ref l from h1]
  have := call_len' (prog := prog) (w := w) (A := A') (W := []) hsz [.ref l] s' (.cons ((M1.mono (kps_kp k)).see (fun b hb => nomatch hb) fun hb => nomatch hb) .nil)
  exact fun hw E Q hQ => this WOK.nil E Q fun v s2 k2 hv => by
    obtain ⟨t, rfl⟩ := d_int hv
    exact hQ _ _ k2 (d_ofInt _ _ _)
end
end Mine
set_option maxRecDepth 100000
set_option maxHeartbeats 4000000
set_option linter.unusedVariables false
namespace Mine
open PySem PySem.Spec PySem.Calls PyProof.Rows PySem.W
section
variable {prog : Program} {w : World} {W : List Addr} {A : Around} {env : Env} {s₀ s : Shared} {mg mb : Str → Option Value} {v v' : Value} {l : Addr} {ps : List (Str × Str)} {nm : Str} {Ps : List VP} {value : Expr} {p pos : Pos}
theorem set_all {l sl b : Addr} {vs us : Array Value} {n n' : Nat} {Q : Unit → Shared → Prop} {E : Value → Shared → Prop} (hl : s.heap.get? l = some { cls := .type "list", data := .seq vs n }) (hb : s.heap.get? b = some { cls := .type "list", data := .seq us n' }) (hs : s.heap.IsSliceOf sl .none .none .none)
    (hlb : l ≠ b) (hsz : vs.size + us.size ≤ sizeLine) (h : Q () { s with heap := s.heap.update l (Obj.mapSeq fun xs => xs.extract 0 0 ++ us ++ xs.extract vs.size xs.size) }) : wpAny (model prog w) A (setItem (.ref l) (.ref sl) (.ref b)) Q E s := by
  obtain ⟨os, hos, hcs, hds⟩ := id hs
  have hTs : s.TypeIs (.ref sl) "slice" := ⟨os, hos, hcs⟩
  have hT : s.TypeIs (.ref l) "list" := ⟨_, hl, rfl⟩
  have hTb : s.TypeIs (.ref b) "list" := ⟨_, hb, rfl⟩
  have hlb' : (l == b) = false := by simpa using hlb
  unfold setItem
  try with_reducible refine wpAny_holding ?_
  refine wpAny_bind (wpAny_sequenceKey hT (by decide) ?_)
  refine wpAny_bind (wpAny_callSpecial?_slot (name := Str.ofString "__setitem__") hT PySem.F.slot_list_setitem
    (wpAny_call_entry PySem.F.slot_list_setitem hT PySem.F.entry_list_setitem ?_ (PySem.F.args_list_setitem_3 _ _ _)))
  show wpAny _ _ (Builtin.List.listSubscript? (.ref sl) >>= _) _ _ s
  refine wpAny_bind ?_
  unfold Builtin.List.listSubscript?
  refine wpAny_bind (wpAny_specialOf hTs slice_no_index ?_)
  simp only [Option.isNone_none, if_true]
  refine wpAny_pure ?_
  show wpAny _ _ (typeOf (.ref sl) >>= _) _ _ s
  refine wpAny_bind (wpAny_typeOf hTs ?_)
  rw [if_neg (by decide)]
  rw [listSliceParts_eq]
  refine wpAny_bind (wpAny_bind (wpAny_field hos hds (x := .none) rfl (wpAny_bind (wpAny_listPart .none ?_))))
  rw [if_neg (show ¬ ((rawPart none == rawInt 0) = true) from Bool.false_ne_true)]
  refine wpAny_bind (wpAny_field hos hds (x := .none) rfl (wpAny_bind (wpAny_listPart .none ?_)))
  refine wpAny_bind (wpAny_field hos hds (x := .none) rfl (wpAny_bind (wpAny_listPart .none (wpAny_pure ?_))))
  dsimp only
  rw [if_neg (show ¬ (Builtin.List.listSameRef (.ref l) (.ref b) = true) by simp [Builtin.List.listSameRef, hlb'])]
  refine wpAny_bind (m := Builtin.List.listAllItems (.ref b) _) ?_
  unfold Builtin.List.listAllItems
  refine wpAny_bind (wpAny_typeOf hTb ?_)
  rw [if_pos (by decide)]
  unfold Builtin.List.listItems
  refine wpAny_bind (wpAny_seqItems hb rfl (wpAny_pure ?_))
  refine wpAny_bind (wpAny_bind (wpAny_seqItems hl rfl (wpAny_pure ?_)))
  refine wpAny_bind (wpAny_of_eq (sliceIndices_raw none none none vs.size (by simp)) ?_)
  have hbd : sliceBounds none none none vs.size = (0, (vs.size : Int), 1) := by simp [sliceBounds]
  rw [hbd]
  dsimp only
  rw [if_pos (by decide)]
  refine wpAny_bind (wpAny_rule ?_)
  have ht : Builtin.List.listTooLong (vs.size + us.size) = false := by
    unfold Builtin.List.listTooLong sizeLine
    rw [sizeLine_eq] at hsz
    exact decide_eq_false (by omega)
  rw [ht]
  simp only [Bool.false_eq_true, if_false]
  have hmax : (max (0 : Int) (vs.size : Int)).toNat = vs.size := by omega
  rw [hmax]
  show wpAny _ _ (updateSeq l _ >>= _) _ _ _
  refine wpAny_bind (wpAny_updateSeq hl rfl ?_ (hz := by omega) (_hz' := ?_))
  · exact wpAny_bind (wpAny_letGo (wpAny_pure ⟨_, rfl, wpAny_pure h⟩))
  · simp
    omega
end
end Mine
set_option maxRecDepth 100000
set_option maxHeartbeats 4000000
set_option linter.unusedVariables false
namespace Mine
open PySem PySem.Spec PySem.Calls PyProof.Rows PySem.W
section
variable {prog : Program} {w : World} {W : List Addr} {A : Around} {env : Env} {s₀ s : Shared} {mg mb : Str → Option Value} {v v' : Value} {l : Addr} {ps : List (Str × Str)} {nm : Str} {Ps : List VP} {value : Expr} {p pos : Pos}
theorem del_ok (R : Room A 2) (hW : Wd (KK w) mg mb (Vw W s.heap)) (hv : (HdI l).p v (Vw W s.heap)) (hn : (D (.str nm)).p v' (Vw W s.heap)) (hlW : l ∈ W) (hM : Mu W l (ps.map pairV) s.heap) (N : Nameable nm) (hps : ∀ p ∈ ps, Fine p) (hsz : ps.length ≤ 1000) :
    EvK prog w [l] W A 109 [v, v'] [] (fun u h' => u = .none ∧ Mu W l ((ps.filter fun p => !(Txt.lower p.1 == Txt.lower nm)).map pairV) h') s := by
  refine ev_callK (K := KK w) R (hW.mono (vw_kp _ _)) rfl rfl rfl rfl rfl rfl rfl rfl rfl rfl ?_
  intro L env A' W' s₁ he hA' R' hL hW' F kv kk hoff
  have hWs : ∀ b ∈ W, b ∈ W' := fun b hb => hW' ▸ List.mem_append_right _ hb
  have hl : l ∉ own env := fun hb => by obtain ⟨us, ⟨n, g⟩, r⟩ := hM; rw [hoff l hb] at g; cases g
  have hlc : ∀ {n : Str} {c : Addr}, env.cells.lookup n = some c → l ∉ [c] := fun h q => hl (by rw [List.mem_singleton.mp q]; exact mem_own_cell h)
  have hMl := hide1 hl (hideAll_none (h := s.heap) [l] (.head _))
  clear hA' hW' R
  subst he
  have hW1 := hW.mono kv
  have v1 := VP.mono _ kv hv
  have n1 := VP.mono _ kv hn
  have M1 : Mu W' l (ps.map pairV) s₁.heap := hM.go (fun o => kk _ o) kv
  refine st_assign (wp_hmk (b := true) (P := D (.str (Txt.lower nm))) F.ok (hW1.mono (vw_kp _ _)) (pe_name (ld_local F (x := "self") rfl v1))
    (pe_meth (P1 := D (.str nm)) (pe_name (ld_cell F (x := "name") rfl rfl n1)) pes_nil PySem.F.plainAttrs_str PySem.F.slot_str_lower PySem.F.type_str_lower callee_str (fun v vs s _ h1 h2 => call_lower rfl N.len v vs s h1 h2)) pe_bool rfl rfl rfl (fun _ _ => by rfl) fun x u s2 k2 hx hu => ?_)
  obtain ⟨tk, rfl⟩ := d_str hu
  refine conv_name R' (hW1.mono (vw_mono (kps_kp k2))) N.miss N.len' (F.ok.mono (kps_kp k2)) _ _ fun u s3 k3 ok3 hu3 => ?_
  subst hu3
  have k23 : Keeps s₁ s3 := kps_trans k2 k3
  have F3 := F.keeps k23
  refine store_cell F3 rfl (fun s4 F4 k4 => ?_) rfl
  have kvc : Kp (Vw W' s3.heap) (Vw W' s4.heap) := kb_vw (by intro b hb; rw [List.mem_singleton.mp hb]; exact F3.cel (n := "name") rfl) k4
  have kv4 := (vw_mono (W := W') (kps_kp k23)).trans kvc
  have v4 := VP.mono _ kv4 v1
  have M4 : Mu W' l (ps.map pairV) s4.heap := M1.go (fun o q => kb_get k4 (hlc (n := "name") rfl) o (kps_kp k23 _ _ q)) kv4
  have hW4 := hW1.mono kv4
  have hsz' : ps.length ≤ sizeLine := by rw [sizeLine_eq]; omega
  refine wpAny_execs_cons (wpAny_Assign_Subscript ?_)
  refine (pe_lc1F ps (Pit := Is (.ref l)) (Pf := pairV) (Po := pairV) (fun p => !(Txt.lower p.1 == Txt.lower nm)) (pe_hattr (hW4.mono (vw_kp _ _)) (pe_name (ld_local F4 (x := "self") rfl v4))) (fun v s' k hv => by rw [show v = .ref l from hv]; exact src_mu R'.hd (M4.mono (kps_kp k))) hsz' ?_) s4 (kps_refl _) F4.ok _ _ fun u s5 k5 hu => ?_
  · intro p hp W2 C s5 k5 kv5 ok5 hld
    have P := hps p hp
    refine ⟨?_, fun _ => pe_name hld⟩
    refine pt_cmp (P1 := D (.str (Txt.lower p.1))) (P2 := D (.str (Txt.lower nm))) ?_ (pe_name (ld_free F4 k5 kv5 rfl rfl (d_ofStr _ _ _))) (op_ne_str P.low N.low R'.un)
    exact pe_meth (P1 := D (.str p.1)) (pe_sub (pe_name hld) (pe_nat (i := 0)) (sub_tuple rfl (by decide))) pes_nil PySem.F.plainAttrs_str PySem.F.slot_str_lower PySem.F.type_str_lower callee_str (fun v vs s _ h1 h2 => call_lower rfl P.len v vs s h1 h2)
  · obtain ⟨b, rfl, hb0, hbW, ⟨us, ⟨nb, gb⟩, rb⟩⟩ := LsF.mu hu
    have F5 := F4.keeps k5
    refine (pe_hattr (hW4.mono (vw_kp _ _)) (pe_name (ld_local F4 (x := "self") rfl v4))) s5 k5 F5.ok _ _ fun o s6 k6 ho => ?_
    rw [show o = .ref l from ho]
    refine wpAny_Slice ?_
    rw [evalPart_none]
    refine wpAny_pure (wpAny_pure (wpAny_pure ?_))
    have k7 : Keeps s6 { s6 with heap := s6.heap.push { cls := .type "slice", data := .fields #[.none, .none, .none] } } := kps_push
    have F7 := (F5.keeps k6).keeps k7
    obtain ⟨vs, ⟨n, g⟩, r⟩ := M4.mono (kps_kp (kps_trans k5 (kps_trans k6 k7)))
    have gb7 := kps_kp (kps_trans k6 k7) _ _ gb
    have rb7 := rb.mono (vw_mono (W := b :: W') (kps_kp (kps_trans k6 k7)))
    have hlb : l ≠ b := fun q => hbW (by rw [← q]; exact hWs _ hlW)
    have h1 := r.length
    have h2 := rb.length
    simp only [List.length_map] at h1 h2
    have h3 : (ps.filter fun p => !(Txt.lower p.1 == Txt.lower nm)).length ≤ ps.length := List.length_filter_le _ _
    refine set_all g gb7 (Heap.IsSliceOf.new ..) hlb (by rw [sizeLine_eq]; simp at h1 h2; omega) ?_
    have now := now_upd (W := W') (Ps := (ps.filter fun p => !(Txt.lower p.1 == Txt.lower nm)).map pairV) (s := { s6 with heap := s6.heap.push { cls := .type "slice", data := .fields #[.none, .none, .none] } }) (g := fun xs => xs.extract 0 0 ++ us ++ xs.extract vs.size xs.size) (hWs _ hlW) g (by
      have : (vs.extract 0 0 ++ us ++ vs.extract vs.size vs.size).toList = us.toList := by simp
      rw [this]
      exact rb7.mono (vw_sub fun c hc => .tail _ hc))
    have F8 := F7.kb now.kb (now.ok F7.ok) hMl
    exact wpAny_execs_nil ⟨F8.done, fun c hc => F8.ok c (hWs c hc), rfl, now.mu.sub hWs⟩
end
end Mine
set_option maxRecDepth 100000
set_option maxHeartbeats 4000000
set_option linter.unusedVariables false
namespace Mine
open PySem PySem.Spec PySem.Calls PyProof.Rows PySem.W
section
variable {prog : Program} {w : World} {W : List Addr} {A : Around} {env : Env} {s₀ s : Shared} {mg mb : Str → Option Value} {m cm : Str → Option Value} {v v' : Value} {l : Addr} {rest : List Stmt} {Ps : List VP} {value : Expr} {p pos : Pos}
/-- a dict of nothing -/
def EmD : VP := ⟨fun v h => ∃ d n, v = .ref d ∧ (d == sysModules) = false ∧ h.get? d = some { cls := .type "dict", data := .dict #[] n }, fun k ⟨d, n, e, x, g⟩ => ⟨d, n, e, x, k _ _ g⟩⟩
def EmV : VP := ⟨fun v h => ∃ a d n, v = .ref a ∧ h.get? a = some { cls := .type "dict_items", data := .fields #[.ref d] } ∧ h.get? d = some { cls := .type "dict", data := .dict #[] n }, fun k ⟨a, d, n, e, x, g⟩ => ⟨a, d, n, e, k _ _ x, k _ _ g⟩⟩
theorem em_at {h : Heap} {d : Addr} {n : Nat} (g : h.get? d = some { cls := .type "dict", data := .dict #[] n }) : h.DictAt (strKind prog w) d [] n :=
  ⟨_, #[], g, ⟨rfl, rfl, rfl⟩, rfl, (fun e he => by simp at he), .nil, List.nodup_nil⟩
theorem callee_em {v : Value} (hv : EmD.p v (Vw W s.heap)) : Callee "dict" v s := by
  obtain ⟨d, n, rfl, _, g⟩ := hv
  exact ⟨⟨_, (vw_of g).1, rfl⟩, fun a e => by cases e; exact ⟨_, (vw_of g).1, rfl⟩⟩
theorem call_emitems {v : Value} (hv : EmD.p v (Vw W s.heap)) : Ev prog w W A (call (.builtin "dict.items") [v]) EmV s := by
  intro hw E Q hQ
  obtain ⟨d, n, rfl, x, g⟩ := hv
  have g' := (vw_of g).1
  refine call_meetsIn PySem.F.slot_dict_items ⟨_, g', rfl⟩ PySem.F.entry_dict_items (PySem.F.args_dict_items_1 _) (meets_dict_items (strKind prog w) d x) ⟨⟨[], (em_at g').dictOf⟩, ?_⟩
  exact hQ _ _ kps_push ⟨_, d, n, rfl, vw_to (Heap.get?_push_size _ rfl) hw.not_mem, vw_mono (kps_kp kps_push) _ _ g⟩
/-- a loop over nothing -/
theorem st_for0 {target iter : Expr} {body : List Stmt} {Q : Flow → Shared → Prop} {E : Value → Shared → Prop}
    (h : ∀ E', wpAny (model prog w) A (eval iter env) (fun xv s1 => wpAny (model prog w) A (pyIter xv) (fun it s2 => ∀ E'', wpAny (model prog w) A (pyNext it) (fun r s3 => r = none ∧ wpAny (model prog w) A (execs rest env) Q E s3) E'' s2) E' s1) E' s)
    (hs : ∀ x, foldedSetIterable iter env x = pure x := by intro _; rfl) :
    wpAny (model prog w) A (execs (.For target iter body [] pos :: rest) env) Q E s := by
  refine wpAny_execs_cons (wpAny_For (wpAny_mono (h _) (fun xv s1 h1 => wpAny_mono h1 (fun it s2 h2 => ?_) fun _ _ e => e) fun _ _ e => e) hs)
  refine codeAny_forLoop_any (R := fun r s' => match r with | .ok f => (match f with | .next => wpAny (model prog w) A (execs rest env) Q E s' | f => Q f s') | .error e => cameBackBy (model prog w) A env E e s')
    (fun k s' => s' = s2) ?_ 0 rfl
  rintro n s' rfl
  refine wpAny_mono (h2 _) (fun r s3 h3 => ?_) fun _ _ e => e
  obtain ⟨rfl, h3⟩ := h3
  exact wpAny_execs_nil h3
theorem st_emitems {target iter : Expr} {body : List Stmt} {Q : Flow → Shared → Prop} {E : Value → Shared → Prop} (F : Fm env s₀ W m cm s) (hA : A.handled = none) (hit : PE prog w W A env s iter EmV) (hr : ∀ s', Fm env s₀ W m cm s' → Keeps s s' → wpAny (model prog w) A (execs rest env) Q E s')
    (hs : ∀ x, foldedSetIterable iter env x = pure x := by intro _; rfl) : wpAny (model prog w) A (execs (.For target iter body [] pos :: rest) env) Q E s := by
  refine st_for0 (fun E' => hit s (kps_refl s) F.ok _ _ fun xv s1 k1 hx => ?_) hs
  obtain ⟨a, d, n, rfl, x, g⟩ := hx
  have x := (vw_of x).1
  have g := (vw_of g).1
  refine wpAny_pyIter_items (knd := strKind prog w) ⟨_, x, rfl, rfl⟩ (em_at g) (fun E'' => ?_)
  refine wpAny_pyNext_items_end (knd := strKind prog w) (kvs := []) hA (Heap.get?_push_size _ rfl) (em_at (Heap.get?_push_of_some _ g)) rfl fun h' hx => ⟨rfl, ?_⟩
  have k2 : Keeps s1 { s1 with heap := h' } := kps_heap fun b o e => hx b o (Nat.ne_of_lt (Heap.lt_size e)) (Heap.get?_push_of_some _ e)
  exact hr _ (F.keeps (kps_trans k1 k2)) (kps_trans k1 k2)
end
end Mine
set_option maxRecDepth 100000
set_option maxHeartbeats 4000000
set_option linter.unusedVariables false
namespace Mine
open PySem PySem.Spec PySem.Calls PyProof.Rows PySem.W
section
variable {prog : Program} {w : World} {W : List Addr} {A : Around} {env : Env} {s₀ s : Shared} {mg mb : Str → Option Value} {m cm : Str → Option Value} {v v1 v2 : Value} {l : Addr} {rest : List Stmt} {Ps : List VP} {value : Expr} {p pos : Pos} {K : Frag}
theorem Binds.peek {fd : FuncData} {args : Args} {binds : List (Str × Value)} (X : K.In s.heap) (e : ∀ S, PySem.W.peek K S (bindArgs fd args) = some binds) : Binds s fd args binds s :=
  fun M _ _ _ q => (Looks.of_peek (M := M) X (e _)).here q
theorem pt_notNone {e : Expr} {x : Str} {n : Nat} {p1 : Pos} (h : PE prog w W A env s₀ e (D (.str x))) : PT prog w W A env s₀ (.Compare e [.IsNot] [.Constant .none n p1] pos) true :=
  pt_cmp h pe_none fun a b s ha hb => by
    obtain ⟨t, rfl⟩ := d_str ha
    rw [d_none hb]
    exact fun _ E Q hQ => wpAny_isNot_other rfl (by intro h; cases h) (hQ _ _ (kps_refl _) (d_ofBool _ _))

theorem pe_conv {pl : Sem Bool} {o e : Expr} {apos kp : Pos} {t : Str} {b : Bool} {n : Nat} {p1 : Pos} (R : Room A 1) (hWv : Wd (KK w) mg mb (Vw W s₀.heap)) (ho : PE prog w W A env s₀ o (HdI l)) (ha : PE prog w W A env s₀ e (D (.str t))) (hm : miss (if b then code1 else code2) t = true) (hl : t.cps.size ≤ 1000)
    (he : eval (.Call (.Attribute o "_convert_string_type" apos) [e] [⟨some "name", .Constant (.bool b) n p1, kp⟩] pos) env = (do
      let ov ← eval o env
      standAt apos.atName
      let (f, first) ← holding [ov] (getMethod ov "_convert_string_type" pl)
      callWith pos f first (backTo pos (starEach [e] env)) (backToKw pos (keywordEach [⟨some "name", .Constant (.bool b) n p1, kp⟩] env))) := by rfl)
    (hall : (backToKw pos (keywordEach [⟨some "name", .Constant (.bool b) n p1, kp⟩] env)).all (·.1.isSome) = true := by rfl) (hpl : ((backTo pos (starEach [e] env)).any (·.1) || (backToKw pos (keywordEach [⟨some "name", .Constant (.bool b) n p1, kp⟩] env)).any (·.1.isNone)) = false := by rfl) (hse : starEach [e] env = [(false, eval e env)] := by rfl) :
    PE prog w W A env s₀ (.Call (.Attribute o "_convert_string_type" apos) [e] [⟨some "name", .Constant (.bool b) n p1, kp⟩] pos) (D (.str t)) := by
  intro s k hw E Q hQ
  have hW1 := hWv.mono (vw_mono (W := W) (kps_kp k))
  refine wp_hmk (b := b) hw (hW1.mono (vw_kp _ _)) (ho.at k) (ha.at k) pe_bool rfl rfl rfl (fun _ _ => by rfl) (fun x u s2 k2 hx hu => ?_) he hall hpl hse
  obtain ⟨tk, rfl⟩ := d_str hu
  refine conv_ok R (hW1.mono (vw_mono (kps_kp k2))) hm hl (hw.mono (kps_kp k2)) _ _ fun u s3 k3 ok3 hu3 => ?_
  rw [hu3]
  exact hQ _ _ (kps_trans k2 k3) (d_ofStr _ _ _)
theorem join_one {x t : Str} : Txt.join x [t] = t := by rfl
set_option maxHeartbeats 400000 in
theorem add_ok {n t : Str} {ps : List (Str × Str)} (R : Room A 2) (hWv : Wd (KK w) mg mb (Vw W s.heap)) (hv : (HdI l).p v (Vw W s.heap)) (h1 : (D (.str n)).p v1 (Vw W s.heap)) (h2 : (D (.str t)).p v2 (Vw W s.heap)) (hlW : l ∈ W) (hM : Mu W l (ps.map pairV) s.heap)
    (hn : miss code1 n = true) (hnl : n.cps.size ≤ 1000) (ht : miss code2 t = true) (htl : t.cps.size ≤ 1000) (hsz : ps.length ≤ 1000) :
    EvK prog w [l] W A 186 [v, v1, v2] [] (fun u h' => u = .none ∧ Mu W l ((ps ++ [(n, t)]).map pairV) h') s := by
  intro hw E0 Q0 hQ0
  have hW := hWv.mono (vw_kp _ _)

  refine wpAny_call (code_callX (K := KK w) (W := W) (M := [l]) (k := 1) (R := fun u h' => u = .none ∧ Mu W l ((ps ++ [(n, t)]).map pairV) h') R hW rfl rfl rfl rfl
    (sb := { s with heap := s.heap.push { cls := .type "dict", data := .dict #[] } }) (binds := [("self", v), ("_name", v1), ("_value", v2), ("_params", .ref s.heap.objs.size)])
    (fun M A E Q q => (show wpAny M A (alloc { cls := .type "dict", data := .dict #[] } >>= fun D => pure [(("self" : Str), v), ("_name", v1), ("_value", v2), ("_params", .ref D)]) Q E s from wpAny_bind (wpAny_alloc (wpAny_pure q)))) kps_push rfl rfl rfl rfl rfl hw (fun u s' k1 k2 k3 => hQ0 u s' k1 k2 k3) ?_)
  intro L env A' W' s₁ he hA' R' hL hW' F kv kk hoff
  have hWs : ∀ b ∈ W, b ∈ W' := fun b hb => hW' ▸ List.mem_append_right _ hb
  have hMb := hM
  have hl : l ∉ own env := fun hb => by obtain ⟨us, ⟨n, g⟩, r⟩ := hM; rw [hoff l hb] at g; cases g
  have hMl := hide1 hl (hideAll_none (h := s.heap) [l] (.head _))
  have hdW : s.heap.objs.size ∉ W' := by
    rw [hW', he]
    intro q
    rcases List.mem_append.mp q with q | q
    · have q : s.heap.objs.size = L := List.mem_singleton.mp q
      have hL' : L = (s.heap.push { cls := .type "dict", data := .dict #[] }).objs.size := hL
      rw [Heap.size_push] at hL'
      exact absurd (q.trans hL') (Nat.ne_of_lt (Nat.lt_succ_self _))
    · exact hw.not_mem q
  have Dv : EmD.p (.ref s.heap.objs.size) (Vw W' s₁.heap) := ⟨_, 0, rfl, by
    have := Heap.lt_size (hW.inK 186 _ (by rfl))
    exact beq_eq_false_iff_ne.mpr (by exact Nat.ne_of_gt (Nat.lt_trans (by decide : 1 < 186) this)), vw_to (kk _ _ (Heap.get?_push_size _ rfl)) hdW⟩
  have kks : Kp s.heap s₁.heap := (kps_kp kps_push).trans kk
  clear hA' hW' R
  subst he
  have hW1 := hWv.mono kv
  have v1 := VP.mono _ kv hv
  have n1 := VP.mono _ kv h1
  have t1 := VP.mono _ kv h2
  have M1 : Mu W' l (ps.map pairV) s₁.heap := hM.go (fun o => kks _ o) kv
  have hLi : ∀ {W₂ : List Addr}, (∀ b ∈ W', b ∈ W₂) → ∀ b ∈ [L], b ∈ W₂ := fun h b hb => h b (by rw [List.mem_singleton.mp hb]; exact F.loc)
  refine st_localK F (P := LsF s₁.heap []) (pe_listF pes_nil (by decide)) fun vq s2 F2 k2 hq => ?_
  obtain ⟨q, rfl, hq0, hqW, Mq⟩ := LsF.mu hq
  have hlq : l ≠ q := fun z => by obtain ⟨us, ⟨n, g⟩, r⟩ := M1; rw [z, hq0] at g; cases g
  have kv2 : Kp (Vw W' s₁.heap) (Vw W' s2.heap) := kb_vw (hLi fun _ h => h) k2
  have kq2 : Kp (Vw W' s₁.heap) (Vw (q :: W') s2.heap) := kv_hide kv2 hq0
  have F3 := F2.hide Mq
  have M2 : Mu (q :: W') l (ps.map pairV) s2.heap := M1.go (kb_get k2 (by simpa using fun z => hl (by rw [z]; exact mem_own_loc _))) kq2
  have hW2 := hW1.mono kq2
  have v2' := VP.mono _ kq2 v1
  have n2 := VP.mono _ kq2 n1
  have t2 := VP.mono _ kq2 t1
  have d2 := VP.mono _ kq2 Dv
  have hsub : ∀ b ∈ W', b ∈ q :: W' := fun b hb => .tail _ hb
  refine st_if F3 (b := true) (pt_notNone (pe_name (ld_local F3 (x := "_value") rfl t2))) (fun _ s3 F4 k3 => ?_) (fun hb => nomatch hb)
  have kv3 := vw_mono (W := q :: W') (kps_kp k3)
  refine st_localK F4 (P := D (.str t)) (pe_conv (b := false) R' (hW2.mono kv3) (pe_name (ld_local F4 (x := "self") rfl (VP.mono _ kv3 v2'))) (pe_name (ld_local F4 (x := "_value") rfl (VP.mono _ kv3 t2))) ht htl) fun vt s4 F5 k4 ht4 => ?_
  have kv4 := kv3.trans (kb_vw (hLi hsub) k4)
  have hLm : ∀ {a : Addr}, a ≠ L → a ∉ [L] := fun h => by simpa using h
  have hlL : l ≠ L := fun z => hl (by rw [z]; exact mem_own_loc _)
  have hqL : q ≠ L := fun z => hqW (by rw [z]; exact F.loc)
  have v4 := VP.mono _ kv4 v2'
  have n4 := VP.mono _ kv4 n2
  have d4 := VP.mono _ kv4 d2
  have hW4 := hW2.mono kv4
  have M4 := (M2.mono (kps_kp k3)).kb' k4 (hLm hlL) (hLi hsub)
  have Mq4 := (Mu.mono (W := q :: W') (Mq.go (fun o z => z) (Kp.refl _)) (kps_kp k3)).kb' k4 (hLm hqL) (hLi hsub)
  refine st_meth1 F5 (pe_name (ld_local F5 (x := "parts") rfl rfl)) Mq4 (pe_name (ld_local F5 (x := "_value") rfl ht4)) PySem.F.slot_list_append PySem.F.type_list_append fun vx s5 F6 k5 hvx => ?_
  have hqi : ∀ b ∈ [q], b ∈ q :: W' := fun b hb => by rw [List.mem_singleton.mp hb]; exact .head _
  refine call_append (hqi _ (.head _)) (Mq4.mono (kps_kp k5)) hvx (by decide) fun s6 now => wpAny_execs_nil ?_
  have kv6 : Kp (Vw (q :: W') s4.heap) (Vw (q :: W') s6.heap) := (vw_mono (kps_kp k5)).trans (kb_vw hqi now.kb)
  have F7 := F6.kb now.kb (now.ok F6.ok) (hide1 (fun z => hqW (F.own _ z)) (none_of (vw_kp _ _) (none_of kks hq0)))
  have M6 := (M4.mono (kps_kp k5)).kb' now.kb (by simpa using hlq) hqi
  have v6 := VP.mono _ kv6 v4
  have n6 := VP.mono _ kv6 n4
  have d6 := VP.mono _ kv6 d4
  have hW6 := hW4.mono kv6
  refine st_emitems F7 R'.hd (pe_methK (T := "dict") (P1 := EmD) (Ps := []) (pe_name (ld_local F7 (x := "_params") rfl d6)) pes_nil PySem.F.plainAttrs_dict PySem.F.slot_dict_items PySem.F.type_dict_items (fun v s _ h => callee_em h) (fun v vs s _ h hvs => by cases hvs; exact call_emitems h)) fun s7 F8 k7 => ?_
  have kv7 := vw_mono (W := q :: W') (kps_kp k7)
  have Mq7 := now.mu.mono (kps_kp k7)
  refine st_meth1 F8 (P := pairV (n, t)) (pe_hattr ((hW6.mono kv7).mono (vw_kp _ _)) (pe_name (ld_local F8 (x := "self") rfl (VP.mono _ kv7 v6)))) (M6.mono (kps_kp k7)) (pe_tuple (pes_cons (pe_conv (b := true) R' (hW6.mono kv7) (pe_name (ld_local F8 (x := "self") rfl (VP.mono _ kv7 v6))) (pe_name (ld_local F8 (x := "_name") rfl (VP.mono _ kv7 n6))) hn hnl) (pes_cons (P := D (.str t)) ?_ pes_nil)) (show 2 ≤ sizeLine by decide)) PySem.F.slot_list_append PySem.F.type_list_append fun vx s8 F9 k8 hvx => ?_
  · refine pe_methK (T := "str") (P1 := D (.str "; ")) (Ps := [Is (.ref q)]) pe_str (pes_cons (pe_name (ld_local F8 (x := "parts") rfl rfl)) pes_nil) PySem.F.plainAttrs_str PySem.F.slot_str_join PySem.F.type_str_join (fun v s' k h => callee_str v s' h) (fun v vs s' k h hvs => ?_)
    obtain ⟨⟩ | ⟨hx, hvs⟩ := hvs
    cases hvs
    obtain ⟨t', rfl⟩ := d_str h
    rw [show _ = Value.ref q from hx]
    obtain ⟨us, ⟨n', g⟩, r⟩ := Mq7.mono (kps_kp k)
    obtain ⟨x, xs, hx1, hx2⟩ : ∃ x tk, us.toList = [Value.str t tk] ∧ x = tk := by
      generalize us.toList = ul at r
      obtain ⟨⟩ | ⟨hu, r⟩ := r
      cases r
      obtain ⟨tk, rfl⟩ := d_str hu
      exact ⟨tk, tk, rfl, rfl⟩
    intro hw' E Q hQ
    have htl' : t.length ≤ 1000 := htl
    refine join_list ⟨_, g, rfl, n', rfl⟩ (by rw [hx1]; exact .cons t _ .nil) (by simp only [List.map_cons, List.map_nil, List.sum_cons, List.sum_nil, List.length_cons, List.length_nil]; have : ("; " : Str).length = 2 := rfl; omega) fun t' k' => hQ _ _ kps_tok (d_ofStr _ _ _)
  · have hli : ∀ b ∈ [l], b ∈ q :: W' := fun b hb => by rw [List.mem_singleton.mp hb]; exact hsub _ (hWs _ hlW)
    refine call_append (hli _ (.head _)) (M6.mono (kps_kp (kps_trans k7 k8))) hvx (by rw [List.length_map, sizeLine_eq]; omega) fun s9 now2 => wpAny_execs_nil ?_
    have F10 := F9.kb now2.kb (now2.ok F9.ok) hMl
    refine ⟨F10.done, fun b hb => F10.ok b (hsub _ (hWs _ hb)), rfl, ?_⟩
    rw [List.map_append]
    exact now2.mu.sub fun b hb => hsub _ (hWs _ hb)
end
end Mine
set_option maxRecDepth 100000
set_option maxHeartbeats 4000000
set_option linter.unusedVariables false
namespace Mine
open PySem PySem.Spec PySem.Calls PyProof.Rows PySem.W
section
variable {prog : Program} {w : World} {W : List Addr} {A : Around} {env : Env} {s₀ s : Shared} {mg mb : Str → Option Value} {m cm : Str → Option Value} {v v1 v2 : Value} {l : Addr} {rest : List Stmt} {Ps : List VP} {value : Expr} {p pos : Pos} {K : Frag}
theorem Fm.swap {h' : Heap} {tk : Nat} (F : Fm env s₀ W m cm s) (ns : h'.Ns env.locals m) (keep : Kp s₀.heap h') (hc : env.cells = []) (ok : WOK W h') : Fm env s₀ W m (fun _ => none) { s with heap := h', toks := tk } := by
  obtain ⟨h₁, tk', e⟩ := F.same
  exact ⟨⟨h', tk, by rw [e]⟩, ns, keep, F.off, fun n c hn => (by rw [hc] at hn; cases hn), F.apart, F.above, ok, F.own, F.fn⟩
set_option maxHeartbeats 400000 in
theorem init_ok {x dx : Addr} {R' : Result → Shared → Prop} (R : Room A 2) (hWv : Wd (KK w) mg mb (Vw W s.heap)) (gx : (Vw W s.heap).get? x = some (instObj 189 dx)) (gd : (Vw W s.heap).get? dx = some emptyDict) (hw : WOK W s.heap) (hX : (KK w).In (Vw [dx] s.heap))
    (hR : ∀ v s', KB [dx] s s' → WOK W s'.heap → (v = .none ∧ ∃ l hs tk n, s.heap.get? l = none ∧ l ∉ W ∧ s'.heap.get? dx = some (dictOf [entryOf hs tk l] n) ∧ Mu (l :: W) l [] s'.heap) → R' (.ok (.ret v)) s') :
    codeAny (model prog w) A (.call (.ref 83) ⟨[.ref x], []⟩) R' s := by
  have hW := hWv.mono (vw_kp _ _)
  refine code_callX (K := KK w) (W := W) (M := [dx]) (k := 1) (sb := s) (binds := [("self", .ref x), ("headers", .none)]) (R := fun v h' => v = .none ∧ ∃ l hs tk n, s.heap.get? l = none ∧ l ∉ W ∧ h'.get? dx = some (dictOf [entryOf hs tk l] n) ∧ Mu (l :: W) l [] h') R hW rfl rfl rfl rfl
    (Binds.peek hW.inK fun S => rfl) (kps_refl s) rfl rfl rfl rfl rfl hw hR ?_
  intro L env A' W' s₁ he hA' R2 hL hW' F kv kk hoff
  have hWs : ∀ b ∈ W, b ∈ W' := fun b hb => hW' ▸ List.mem_append_right _ hb
  have hcl : own env = [L] := by rw [he]; rfl
  have hWL : W' = L :: W := by rw [hW', hcl]; rfl
  have hLs : s.heap.objs.size ≤ L := hL ▸ Nat.le_refl _
  clear hA' hW' R
  subst he
  have hW1 := hWv.mono kv
  have gx1 := kv _ _ gx
  have gd1 := kv _ _ gd
  refine st_localK F (P := LsF s₁.heap []) (pe_ifexp (b := false) (pt_cmp (P1 := D .none) (P2 := D .none) (pe_name (ld_local F (x := "headers") rfl (d_ofNone _))) pe_none (fun a b s' ha hb => ?_)) (fun h => nomatch h) (fun _ => pe_listF pes_nil (by decide))) fun vq s2 F2 k2 hq => ?_
  · rw [d_none ha, d_none hb]
    exact fun _ E Q hQ => wpAny_isNot_self rfl (hQ _ _ (kps_refl _) (d_ofBool _ _))
  obtain ⟨l, rfl, hl0, hlW, Ml⟩ := LsF.mu hq
  have kv2 : Kp (Vw W' s₁.heap) (Vw W' s2.heap) := kb_vw (by intro b hb; rw [List.mem_singleton.mp hb]; exact F.loc) k2
  have kq2 : Kp (Vw W' s₁.heap) (Vw (l :: W') s2.heap) := kv_hide kv2 hl0
  have hW2 := hW1.mono kv2
  have hls : s.heap.get? l = none := none_of kk hl0
  refine st_if F2 (b := false) (pt_cmp (P1 := Is (.type "list")) (P2 := Is (.type "list")) (pe_call_type (Ps := [LsF s₁.heap []]) (pe_built (hW2.mono (vw_kp _ _)) rfl PyProof.Rows.boot_type) (pes_cons (pe_name (ld_local F2 (x := "headers") rfl hq)) pes_nil) (fun vs s' k h => ?_)) (pe_built (hW2.mono (vw_kp _ _)) rfl PyProof.Rows.boot_list) (fun a b s' ha hb => ?_)) (fun hb => nomatch hb) (fun _ s3 F3 k3 => wpAny_execs_nil ?_)
  · obtain ⟨⟩ | ⟨h1, h2⟩ := h
    cases h2
    obtain ⟨l', n', us, hl1, _, hl2, _⟩ := h1
    rw [hl1]
    exact fun _ E Q hQ => PySem.call_type_of (Tx := "list") ⟨_, (vw_of hl2).1, rfl⟩ rfl (hQ _ _ (kps_refl _) rfl)
  · rw [show a = .type "list" from ha, show b = .type "list" from hb]
    exact fun _ E Q hQ => wpAny_isNot_self rfl (hQ _ _ (kps_refl _) (d_ofBool _ _))
  refine wpAny_execs_cons (plainObj_wpAny_Assign_Attribute ?_)
  refine (pe_name (pos := _) (ld_local F3 (x := "headers") (P := Is (.ref l)) rfl rfl) (by decide)) s3 (kps_refl _) F3.ok _ _ fun v4 s4 k4 hv4 => ?_
  rw [show v4 = _ from hv4]
  refine (pe_name (pos := _) (ld_local (F3.keeps k4) (x := "self") (P := Is (.ref x)) rfl rfl) (by decide)) s4 (kps_refl _) (F3.keeps k4).ok _ _ fun v5 s5 k5 hv5 => ?_
  rw [show v5 = _ from hv5]
  have F5 := (F3.keeps k4).keeps k5
  have k35 : Keeps s2 s5 := kps_trans k3 (kps_trans k4 k5)
  have kv5 : Kp (Vw W' s₁.heap) (Vw W' s5.heap) := kv2.trans (vw_mono (kps_kp k35))
  have gx5 := kv5 _ _ gx1
  have gd5 := kv5 _ _ gd1
  obtain ⟨us, ⟨nl, gl⟩, rl⟩ := Ml.mono (kps_kp k35)
  have hlL : l ≠ L := fun z => hlW (by rw [z]; exact F.loc)
  have hld : l ≠ dx := fun z => by rw [← z, ] at gd; have := (vw_of gd).1; rw [hls] at this; cases this
  have hdL : dx ≠ L := fun z => by
    have := Heap.lt_size (vw_of gd).1
    rw [z] at this
    exact absurd this (Nat.not_lt.mpr hLs)
  have FR : Fr (Vw [dx] s.heap) L s5.heap _ := ⟨F5.ns, F5.keep, by rw [hideAll_size]; exact hLs⟩
  have NW : News (Vw [dx] s.heap) L s5.heap [(dx, dictOf [] 0), (l, { cls := .type "list", data := .seq us nl })] := by
    intro p hp
    rcases List.mem_cons.mp hp with rfl | hp
    · exact ⟨(vw_of gd5).1, hdL, hideAll_none _ (.head _)⟩
    · rw [List.mem_singleton.mp hp]
      exact ⟨gl, hlL, none_of (vw_kp _ _) hls⟩
  refine set_dict (es := []) (n := 0) FR hX NW ⟨(vw_of gx5).1, rfl, rfl, (vw_of gd5).1⟩ rfl rfl rfl rfl rfl rfl rfl (.head ?_) (show 1 ≤ 1000 by decide) fun h' F' N' => ?_
  · intro p hp
    rw [List.mem_singleton.mp hp]
    exact hld
  have gl' := (N' _ (.tail _ (.head _))).1
  have gd' := (N' _ (.head _)).1
  have ok6 : WOK W' h' := by
    rw [hWL]
    intro b hb
    rcases List.mem_cons.mp hb with rfl | hb
    · obtain ⟨o', _, _, e', _⟩ := F'.ns
      exact ⟨_, o', Nat.le_refl _, e'⟩
    · obtain ⟨c, o, hle, e⟩ := hw b hb
      by_cases q : c = dx
      · exact ⟨dx, _, q ▸ hle, gd'⟩
      · exact ⟨c, o, hle, F'.keep _ _ (vw_to e (by simpa using q))⟩
  have F6 := F5.swap (h' := h') (tk := s5.toks + 2) F'.ns F'.keep rfl ok6
  have Ml6 : Mu (l :: W') l [] h' := ⟨us, ⟨nl, gl'⟩, by
    have := rl.length
    generalize us.toList = ul at rl this
    cases rl
    exact .nil⟩
  dsimp only
  refine st_if F6 (b := true) (pt_bool pe_bool) (fun _ s7 F7 k7 => ?_) (fun hb => nomatch hb)
  refine st_for F7 ([] : List (Str × Str)) [L] (Pit := LsV []) (Pf := pairV) (fun _ _ _ h => True) (fun _ _ _ _ _ a _ => a) (fun _ _ _ _ _ b hb => .inl (hcl ▸ hb)) (fun b hb => hcl ▸ hb) (fun b hb => by rw [hWL, List.mem_singleton.mp hb]; exact .head _) (fun b hb => F7.off b (hcl ▸ hb))
    (pe_name (ld_local F7 (x := "headers") (P := LsV []) rfl ?_)) (fun v s' _ h => src_listX R2.hd (fun b hb => by rw [hWL, List.mem_singleton.mp hb]; exact .head _) h) trivial (fun i y hy => by simp at hy) (fun m8 cm8 s8 F8 _ k8 => ?_)
  · exact (Ml6.mono (kps_kp k7)).see (fun b hb => .tail _ hb) hlW
  refine wpAny_execs_nil (wpAny_execs_nil ⟨F8.done, fun b hb => F8.ok b (hWs _ hb), rfl, l, _, _, _, hls, fun z => hlW (hWs _ z), kb_kp k8 _ _ (vw_to (kps_kp k7 _ _ gd') (by simpa using hdL)), ?_⟩)
  have := (Ml6.mono (kps_kp k7)).kb' k8 (by simpa using hlL) (fun b hb => by rw [hWL, List.mem_singleton.mp hb]; exact .tail _ (.head _))
  exact this.sub fun b hb => (List.mem_cons.mp hb).elim (fun q => by rw [q]; exact .head _) fun q => .tail _ (hWs _ q)
/-- Headers() -/
theorem new_headers {Q E : Value → Shared → Prop} (R : Room A 3) (hWv : Wd (KK w) mg mb (Vw W s.heap)) (hw : WOK W s.heap)
    (hQ : ∀ v s' l, Keeps s s' → WOK W s'.heap → s.heap.get? l = none → l ∉ W → (HdI l).p v (Vw (l :: W) s'.heap) → Mu (l :: W) l [] s'.heap → Q v s') : wpAny (model prog w) A (call (.ref 189) []) Q E s := by
  have hW := hWv.mono (vw_kp _ _)
  obtain ⟨hh, g, d, t, os⟩ := s
  have X := hW.inK
  refine wpAny_call (make_core (makes_of (C := 189) X rfl) (looks_findIn X (name := "__init__") (r := some (.ref 83)) rfl) (fun self => bind_fn X self (by rfl)) (.inl rfl) ?_)
  have k2 : Keeps (⟨hh, g, d, t, os⟩ : Shared) ⟨(hh.push emptyDict).push (instObj 189 hh.objs.size), g, d, t, os⟩ := kps_heap fun b o e => Heap.get?_push_of_some _ (Heap.get?_push_of_some _ e)
  have hx : ((hh.push emptyDict).push (instObj 189 hh.objs.size)).get? (hh.objs.size + 1 : Nat) = some (instObj 189 hh.objs.size) := by heap_get
  have hd : ((hh.push emptyDict).push (instObj 189 hh.objs.size)).get? hh.objs.size = some emptyDict := by heap_get
  have n1 : (hh.objs.size + 1 : Nat) ∉ W := hw.fresh (Nat.le_succ _)
  have n2 : hh.objs.size ∉ W := hw.not_mem
  have hdn : hh.get? hh.objs.size = none := get_size_none _ (Nat.le_refl _)
  refine init_ok (x := (hh.objs.size + 1 : Nat)) (dx := hh.objs.size) (mg := mg) (mb := mb) (W := W) ?_ (hWv.mono (vw_mono (kps_kp k2))) (vw_to hx n1) (vw_to hd n2) (hw.mono (kps_kp k2)) ?_ fun v s' k ok h => ?_
  · have hw1 : (Code.builtin "type.__call__" ⟨[.ref 189], []⟩).weight = 1 := by decide +kernel
    have hu1 : (Code.builtin "type.__call__" ⟨[.ref 189], []⟩).cUnits = 1 := by decide +kernel
    refine ⟨R.hd, ?_, ?_⟩
    · have := R.depth
      show A.depth + (Code.builtin "type.__call__" ⟨[.ref 189], []⟩).weight + 2 < 900
      rw [hw1]; omega
    · have := R.units
      show A.units + (Code.builtin "type.__call__" ⟨[.ref 189], []⟩).cUnits + 100 * 2 < 9000
      rw [hu1]; omega
  · exact X.keeps fun b o e => vw_to (kps_kp k2 _ _ e) fun m => by
      rw [List.mem_singleton.mp m] at e
      rw [hdn] at e; cases e
  · obtain ⟨rfl, l, hs, tk, n, h1, h2, h3, h4⟩ := h
    refine ⟨rfl, hQ _ _ l (kb_new k2 (fun b hb => by rw [List.mem_singleton.mp hb]; exact hdn) k) ok (none_of (kps_kp k2) h1) h2 ⟨_, hh.objs.size, hs, tk, n, rfl, vw_to (kb_kp k _ _ (vw_to hx fun m => ?_)) ?_, vw_to h3 ?_⟩ h4⟩
    · exact absurd (List.mem_singleton.mp m) (Nat.ne_of_gt (Nat.lt_succ_self _))
    · intro m
      rcases List.mem_cons.mp m with q | m
      · exact absurd (hx.symm.trans ((congrArg _ q).trans h1)) (by intro z; cases z)
      · exact n1 m
    · intro m
      rcases List.mem_cons.mp m with q | m
      · exact absurd (hd.symm.trans ((congrArg _ q).trans h1)) (by intro z; cases z)
      · exact n2 m
end
end Mine
set_option maxRecDepth 100000
set_option maxHeartbeats 4000000
set_option linter.unusedVariables false
namespace Mine
open PySem PySem.Spec PySem.Calls PyProof.Rows PySem.W
theorem nin1 {a b : Addr} (h : a ≠ b) : a ∉ [b] := fun m => h (List.mem_singleton.mp m)
/-- what may be laid -/
structure Layable (p : Str × Str) : Prop where
  m1 : miss code1 p.1 = true
  n1 : p.1.cps.size ≤ 1000
  m2 : miss code2 p.2 = true
  n2 : p.2.cps.size ≤ 1000
section
variable {prog : Program} {w : World} {W : List Addr} {A : Around} {env : Env} {s₀ s : Shared} {mg mb : Str → Option Value} {m cm : Str → Option Value} {v v1 v2 : Value} {l : Addr} {rest : List Stmt} {Ps : List VP} {value : Expr} {p pos : Pos} {K : Frag}
theorem as_pair {x1 x2 : Str} {p1 p2 tp : Pos} {k : Nat} {P1 P2 : VP} {Q : Unit → Shared → Prop} {E : Value → Shared → Prop} (F : Fm env s₀ W m cm s) (hh : A.handled = none) (hv : (TpV [P1, P2]).p v (Vw W s.heap))
    (h : ∀ v1 v2 s', Fm env s₀ W (fun y => if y = x2 then some v2 else if y = x1 then some v1 else m y) cm s' → KB [env.locals] s s' → P1.p v1 (Vw W s'.heap) → P2.p v2 (Vw W s'.heap) → Q () s')
    (h1 : env.kindOf x1 = some .local := by rfl) (h2 : env.kindOf x2 = some .local := by rfl) (he : (assignEach [.Name x1 p1, .Name x2 p2] env).map (·.2) = [fun v => assign (.Name x1 p1) env v, fun v => assign (.Name x2 p2) env v] := by rfl)
    (hn : (assignEach [.Name x1 p1, .Name x2 p2] env).length = 2 := by rfl) (hstar : (assignEach [.Name x1 p1, .Name x2 p2] env).findIdx? (·.1) = none := by rfl) :
    wpAny (model prog w) A (assign (.Tuple [.Name x1 p1, .Name x2 p2] k tp) env v) Q E s := by
  obtain ⟨a, n, us, rfl, g, r⟩ := hv
  obtain ⟨u1, u2, hu, r1, r2⟩ : ∃ u1 u2, us.toList = [u1, u2] ∧ P1.p u1 (Vw W s.heap) ∧ P2.p u2 (Vw W s.heap) := by
    generalize us.toList = ul at r
    obtain ⟨⟩ | ⟨r1, r⟩ := r
    obtain ⟨⟩ | ⟨r2, r⟩ := r
    cases r
    exact ⟨_, _, rfl, r1, r2⟩
  have hsz : us.size = 2 := by rw [← Array.length_toList, hu]; rfl
  refine wpAny_assign_Tuple hh ⟨_, (vw_of g).1, rfl, n, rfl⟩ (by rw [hsz]; exact hn) hstar fun h' hx => ?_
  rw [he, hu]
  have k1 : Keeps s { s with heap := h' } := kps_heap fun b o e => hx b o (Nat.ne_of_lt (Heap.lt_size e)) e
  have hL : ∀ b ∈ [env.locals], b ∈ W := fun b hb => by rw [List.mem_singleton.mp hb]; exact F.loc
  refine ord_cons (wpAny_assign_Name (store_local (F.keeps k1) (fun s2 F2 k2 => ?_) h1))
  refine ord_cons (wpAny_assign_Name (store_local F2 (fun s3 F3 k3 => ?_) h2))
  have kk := kb_trans (kb_of k1) (kb_trans k2 k3)
  exact ord_nil (h u1 u2 s3 F3 kk (VP.mono _ (kb_vw hL kk) r1) (VP.mono _ (kb_vw hL kk) r2))
theorem lay_ok {ps : List (Str × Str)} {Q E : Value → Shared → Prop} (R : Room A 4) (hWv : Wd (KK w) mg mb (Vw W s.heap)) (hw : WOK W s.heap) (hv : (LsV (ps.map pairV)).p v (Vw W s.heap)) (hps : ∀ p ∈ ps, Layable p) (hsz : ps.length ≤ 1000)
    (hQ : ∀ v s' l, Keeps s s' → WOK W s'.heap → s.heap.get? l = none → l ∉ W → (HdI l).p v (Vw (l :: W) s'.heap) → Mu (l :: W) l (ps.map pairV) s'.heap → Q v s') : wpAny (model prog w) A (call (.ref 200) [v]) Q E s := by
  have hW := hWv.mono (vw_kp _ _)
  suffices h : EvK prog w [] W A 200 [v] [] (fun v h' => ∃ l, s.heap.get? l = none ∧ l ∉ W ∧ (HdI l).p v (Vw (l :: W) h') ∧ Mu (l :: W) l (ps.map pairV) h') s by
    exact h hw E Q fun v s' k ok ⟨l, h1, h2, h3, h4⟩ => hQ v s' l k ok h1 h2 h3 h4
  refine ev_callK (K := KK w) R hW rfl rfl rfl rfl rfl rfl rfl rfl rfl rfl ?_
  intro L env A' W' s₁ he hA' R' hL hW' F kv kk hoff
  have hWs : ∀ b ∈ W, b ∈ W' := fun b hb => hW' ▸ List.mem_append_right _ hb
  have hcl : own env = [L] := by rw [he]; rfl
  have hWL : W' = L :: W := by rw [hW', hcl]; rfl
  clear hA' hW' R
  subst he
  have hW1 := hWv.mono kv
  have p1 := VP.mono _ kv hv
  refine st_assign (wpAny_Call_NameR ((pe_global (x := "Headers") (v := .ref 189) (hW1.mono (vw_kp _ _)) rfl) s₁ (kps_refl _) F.ok _ _ fun v2 s2 k2 hv2 => ?_))
  rw [show v2 = _ from hv2]
  have hW2 := hW1.mono (vw_mono (W := W') (kps_kp k2))
  refine callWith_K0 (hW2.mono (vw_kp _ _)).inK rfl ?_
  refine new_headers R' hW2 (F.ok.mono (kps_kp k2)) fun vt s3 l k3 ok3 hl0 hlW hI hM => ?_
  have F3 := F.keeps (kps_trans k2 k3)
  have hlL : l ≠ L := fun z => hlW (by rw [hWL, z]; exact .head _)
  refine store_local (F3.hide hM) (fun s4 F4 k4 => ?_) rfl
  have hLi : ∀ b ∈ [L], b ∈ l :: W' := fun b hb => by rw [List.mem_singleton.mp hb, hWL]; exact .tail _ (.head _)
  have kv4 := kb_vw hLi k4
  have I4 := VP.mono _ kv4 hI
  have M4 := (hM.kb' k4 (nin1 hlL) hLi)
  have hl1 : s₁.heap.get? l = none := none_of (kps_kp k2) hl0
  have kq : Kp (Vw W' s₁.heap) (Vw (l :: W') s4.heap) := (kv_hide ((vw_mono (W := W') (kps_kp (kps_trans k2 k3)))) hl1).trans kv4
  have p4 := VP.mono _ kq p1
  have hW4 := hW1.mono kq
  have hX0 : ∀ b ∈ [l, L], (Vw [] s.heap).get? b = none := fun b hb => by
    refine none_of (vw_kp _ _) ?_
    rcases List.mem_cons.mp hb with rfl | hb
    · exact none_of kk hl1
    · rw [List.mem_singleton.mp hb]; exact hoff _ (hcl ▸ .head _)
  have hXW : ∀ b ∈ [l, L], b ∈ l :: W' := fun b hb => by
    rcases List.mem_cons.mp hb with rfl | hb
    · exact .head _
    · exact hLi _ hb
  refine st_for F4 ps [l, L] (Pit := LsV (ps.map pairV)) (Pf := pairV)
    (fun i m cm h => m "table" = some vt ∧ Mu (l :: W') l ((ps.take i).map pairV) h)
    (fun i m cm h h' ⟨a, b⟩ k => ⟨a, b.mono k⟩) (fun i m cm h ⟨a, ⟨_, ⟨_, b⟩, _⟩⟩ c hc => (List.mem_cons.mp hc).elim (fun q => .inr ⟨_, q ▸ b⟩) fun q => .inl (hcl ▸ q)) (fun b hb => .tail _ (hcl ▸ hb)) hXW hX0
    (pe_name (ld_local F4 (x := "pairs") rfl p4)) (fun v s' _ h => src_listX R'.hd hXW h) ⟨rfl, M4⟩ ?_ ?_
  · intro i y hy J s5 m5 cm5 v5 hJW hJ0 F5 ⟨q1, q2⟩ hv5 kv5 kx5 E5
    obtain ⟨hi, rfl⟩ := List.getElem?_eq_some_iff.mp hy
    have Y := hps _ (List.getElem_mem hi)
    have hJl : l ≠ J := fun z => hJW (by rw [← z]; exact .head _)
    refine as_pair F5 R'.hd hv5 (fun u1 u2 s6 F6 k6 hu1 hu2 => ?_)
    have hLJ : ∀ b ∈ [L], b ∈ J :: l :: W' := fun b hb => .tail _ (hLi _ hb)
    have kv6 := kb_vw hLJ k6
    have M6 := (Mu.out q2).kb' k6 (nin1 hlL) hLJ
    have I6 := VP.mono _ (kv5.trans kv6) I4
    have hW6 := hW4.mono (kv5.trans kv6)
    refine wpAny_execs_cons (wpAny_Expr_any ?_ rfl (by rfl))
    refine wp_hm (Ps := [D (.str (ps[i]).1), D (.str (ps[i]).2)]) F6.ok (hW6.mono (vw_kp _ _)) (pe_name (ld_local F6 (x := "table") (by show m5 _ = _; exact q1) I6)) (pes_cons (pe_name (ld_local F6 (x := "name") rfl hu1)) (pes_cons (pe_name (ld_local F6 (x := "text") rfl hu2)) pes_nil)) rfl rfl rfl (fun _ _ => by rfl) fun x vs s7 k7 hx hvs => ?_
    obtain ⟨⟩ | ⟨h1, hvs⟩ := hvs
    obtain ⟨⟩ | ⟨h2, hvs⟩ := hvs
    cases hvs
    have hlJ : l ∈ J :: l :: W' := .tail _ (.head _)
    have hlen : (ps.take i).length ≤ 1000 := by rw [List.length_take]; omega
    refine add_ok (R'.less (by decide)) (hW6.mono (vw_mono (kps_kp k7))) hx h1 h2 hlJ (M6.mono (kps_kp k7)) Y.m1 Y.n1 Y.m2 Y.n2 hlen (F6.ok.mono (kps_kp k7)) _ _ fun v8 s8 k8 ok8 h8 => ?_
    refine wpAny_execs_nil ⟨.inl rfl, _, _, (F6.keeps k7).kb k8 ok8 (hide1 (by rw [hcl]; simpa using hlL) (hideAll_none _ (.head _))), ?_, ?_⟩
    · show m5 _ = _
      exact q1
    · have := h8.2.hide hJl
      rwa [List.take_add_one, List.getElem?_eq_getElem hi]
  · rintro m5 cm5 s5 F5 ⟨q1, q2⟩ kx
    have kv5 : Kp (Vw (l :: W') s4.heap) (Vw (l :: W') s5.heap) := kb_vw hXW kx
    have q2' : Mu (l :: W') l (ps.map pairV) s5.heap := by rwa [List.take_length] at q2
    refine st_return F5 (pe_name (ld_local F5 (x := "table") q1 (VP.mono _ kv5 I4))) fun v s6 F6 k6 hv6 => ⟨F6.done, fun b hb => F6.ok b (.tail _ (hWs _ hb)), l, none_of kk hl1, fun z => hlW (hWs _ z), VP.mono _ (vw_sub fun b hb => ?_) hv6, (q2'.mono (kps_kp k6)).sub fun b hb => ?_⟩
    all_goals exact (List.mem_cons.mp hb).elim (fun q => q ▸ .head _) fun q => .tail _ (hWs _ q)
end
end Mine
set_option maxRecDepth 100000
set_option maxHeartbeats 4000000
set_option linter.unusedVariables false
namespace Mine
open PySem PySem.Spec PySem.Calls PyProof.Rows PySem.W
section
variable {prog : Program} {w : World} {W : List Addr} {A : Around} {env : Env} {s₀ s : Shared} {mg mb : Str → Option Value} {m cm : Str → Option Value} {v v1 v2 : Value} {l : Addr} {rest : List Stmt} {Ps : List VP} {value o e : Expr} {p p1 pos apos : Pos} {K : Frag} {ps : List (Str × Str)} {nm : Str}
theorem LsF.from {h₀ h₁ : Heap} {v : Value} {h : Heap} (k : Kp h₁ h₀) (x : (LsF h₀ Ps).p v h) : (LsF h₁ Ps).p v h := LsF.less x k
/-- o.items() -/
theorem pe_items {pl : Sem Bool} (R : Room A 1) (hWv : Wd (KK w) mg mb (Vw W s₀.heap)) (ho : PE prog w W A env s₀ o (HdI l)) (hM : Mu W l (ps.map pairV) s₀.heap) (hsz : ps.length ≤ 1000)
    (he : eval (.Call (.Attribute o "items" apos) [] [] pos) env = (do
      let ov ← eval o env
      standAt apos.atName
      let (f, first) ← holding [ov] (getMethod ov "items" pl)
      callWith pos f first (backTo pos (starEach [] env)) (backToKw pos (keywordEach [] env))) := by rfl) :
    PE prog w W A env s₀ (.Call (.Attribute o "items" apos) [] [] pos) (LsF s₀.heap (ps.map pairV)) := by
  intro s k hw E Q hQ
  have hW1 := hWv.mono (vw_mono (W := W) (kps_kp k))
  refine wp_hm0 hw (hW1.mono (vw_kp _ _)) (ho.at k) rfl rfl rfl (fun _ _ => by rfl) (fun x s2 k2 hx => ?_) he
  refine items_ok R (hW1.mono (vw_mono (kps_kp k2))) hx (hM.mono (kps_kp (kps_trans k k2))) (by rw [sizeLine_eq]; omega) (hw.mono (kps_kp k2)) _ _ fun u s3 k3 ok3 hu3 => ?_
  exact hQ _ _ (kps_trans k2 k3) (LsF.from (kps_kp (kps_trans k k2)) hu3)
/-- o.get_all(e) -/
theorem pe_getall {pl : Sem Bool} (R : Room A 2) (hWv : Wd (KK w) mg mb (Vw W s₀.heap)) (ho : PE prog w W A env s₀ o (HdI l)) (hn : PE prog w W A env s₀ e (D (.str nm))) (hM : Mu W l (ps.map pairV) s₀.heap) (N : Nameable nm) (hps : ∀ p ∈ ps, Fine p) (hsz : ps.length ≤ 1000)
    (he : eval (.Call (.Attribute o "get_all" apos) [e] [] pos) env = (do
      let ov ← eval o env
      standAt apos.atName
      let (f, first) ← holding [ov] (getMethod ov "get_all" pl)
      callWith pos f first (backTo pos (starEach [e] env)) (backToKw pos (keywordEach [] env))) := by rfl)
    (hse : starEach [e] env = (false, eval e env) :: starEach [] env := by rfl) (hpl : (backTo pos (starEach [] env)).any (·.1) = false := by rfl) :
    PE prog w W A env s₀ (.Call (.Attribute o "get_all" apos) [e] [] pos) (LsF s₀.heap ((ps.filter fun p => Txt.lower p.1 == Txt.lower nm).map fun p => D (.str p.2))) := by
  intro s k hw E Q hQ
  have hW1 := hWv.mono (vw_mono (W := W) (kps_kp k))
  refine wp_hm (Ps := [D (.str nm)]) hw (hW1.mono (vw_kp _ _)) (ho.at k) (pes_cons (hn.at k) pes_nil hse) rfl rfl rfl (fun _ _ => by rfl) (fun x vs s2 k2 hx hvs => ?_) he hse hpl
  obtain ⟨⟩ | ⟨h1, hvs⟩ := hvs
  cases hvs
  refine all_ok R (hW1.mono (vw_mono (kps_kp k2))) hx h1 (hM.mono (kps_kp (kps_trans k k2))) N hps (by rw [sizeLine_eq]; omega) (hw.mono (kps_kp k2)) _ _ fun u s3 k3 ok3 hu3 => ?_
  exact hQ _ _ (kps_trans k2 k3) (LsF.from (kps_kp (kps_trans k k2)) hu3)
theorem wp_delItem {M : Model} {E : Value → Shared → Prop} {x C f : Addr} {ox : Obj} {od : Option Obj} {i : Value} {Q : Unit → Shared → Prop} (X : K.In s.heap) (I : InstAt s.heap x ox C od) (hq : noSeq K C = true) (hs : findIn K (.ref C) "__delitem__" = some (some (.ref f))) (hf : isFn K (.ref f) = true)
    (h : wpAny M A (call (.ref f) [.ref x, i]) (fun _ s' => Q () s') E s) : wpAny M A (delItem (.ref x) i) Q E s := by
  unfold delItem sequenceKey
  refine wpAny_holding (wpAny_bind (wpAny_bind (I.type.here ?_)))
  refine wpAny_bind ((anyM_none X hq).here ?_)
  rw [if_pos (show (!false) = true from rfl)]
  exact wpAny_pure (wpAny_bind (special_fn X I hs (beq_iff_eq.mp hf) (wpAny_mono h (fun _ _ z => wpAny_pure z) fun _ _ z => z)))
/-- del o[e] -/
theorem st_del {Q : Flow → Shared → Prop} {E : Value → Shared → Prop} (R : Room A 2) (hw : WOK W s.heap) (hWv : Wd (KK w) mg mb (Vw W s.heap)) (ho : PE prog w W A env s o (HdI l)) (hn : PE prog w W A env s e (D (.str nm))) (hlW : l ∈ W) (hM : Mu W l (ps.map pairV) s.heap) (N : Nameable nm) (hps : ∀ p ∈ ps, Fine p) (hsz : ps.length ≤ 1000)
    (h : ∀ s', KB [l] s s' → WOK W s'.heap → Mu W l ((ps.filter fun p => !(Txt.lower p.1 == Txt.lower nm)).map pairV) s'.heap → wpAny (model prog w) A (execs rest env) Q E s')
    (hd : delete (.Subscript o e p1) env = (do
      let ov ← eval o env
      let iv ← holding [ov] (eval e env)
      standAt p1
      holding [ov, iv] (delItem ov iv)
      release [ov, iv] []) := by rfl) :
    wpAny (model prog w) A (execs (.Delete [.Subscript o e p1] pos :: rest) env) Q E s := by
  refine wpAny_execs_cons (wpAny_Delete (wpAny_deleteEach_cons ?_))
  rw [hd]
  refine wpAny_bind (ho s (kps_refl s) hw E _ fun ov s1 k1 hov => ?_)
  refine wpAny_bind (wpAny_holding (hn s1 k1 (hw.mono (kps_kp k1)) E _ fun iv s2 k2 hiv => ?_))
  have k12 := kps_trans k1 k2
  have hW2 := hWv.mono (vw_mono (W := W) (kps_kp k12))
  have hov2 := VP.mono _ (vw_mono (W := W) (kps_kp k2)) hov
  have hov3 := hov2
  obtain ⟨x, dx, hs, tk, n, rfl, g1, g2⟩ := hov2
  have I : InstAt s2.heap x (instObj 189 dx) 189 (some (dictOf [entryOf hs tk l] n)) := ⟨(vw_of g1).1, rfl, rfl, (vw_of g2).1⟩
  refine wpAny_bind (wpAny_standAt (wpAny_bind (wpAny_holding (wp_delItem (K := KK w) (f := 109) (hW2.mono (vw_kp _ _)).inK I rfl rfl rfl ?_))))
  refine del_ok R hW2 hov3 hiv hlW (hM.mono (kps_kp k12)) N hps hsz (hw.mono (kps_kp k12)) _ _ fun u s3 k3 ok3 h3 => ?_
  refine wpAny_release (wpAny_deleteEach_nil ?_)
  exact h s3 (kb_trans (kb_of k12) k3) ok3 h3.2
/-- what the program laid stands beneath L -/
def Under (w : World) (L : Addr) (h : Heap) : Prop := ∃ h₀ : Heap, (KK w).In h₀ ∧ h₀.objs.size ≤ L ∧ Kp h₀ h
theorem Under.mono {L : Addr} {h h' : Heap} (U : Under w L h) (k : Kp h h') : Under w L h' := let ⟨h₀, a, b, c⟩ := U; ⟨h₀, a, b, c.trans k⟩
/-- len(o) -/
theorem ev_lenH {L : Addr} (R : Room A 2) (hWv : Wd (KK w) mg mb (Vw W s.heap)) (hv : (HdI l).p v (Vw W s.heap)) (hM : Mu W l (ps.map pairV) s.heap) (hsz : ps.length ≤ 1000) (U : Under w L s.heap) (hn : s.heap.Ns L m) : Ev prog w W A (call (.builtin "len") [v]) (D (.int (ps.length : Nat))) s := by
  intro hw E Q hQ
  have hv2 := hv
  obtain ⟨x, dx, hs, tk, n, rfl, g1, g2⟩ := hv
  obtain ⟨h₀, X₀, hL, k₀⟩ := U
  have I : InstAt s.heap x (instObj 189 dx) 189 (some (dictOf [entryOf hs tk l] n)) := ⟨(vw_of g1).1, rfl, rfl, (vw_of g2).1⟩
  have R1 : Room A.in1 1 := ⟨R.hd, (by have := R.depth; show A.depth + 1 < 900; omega), (by have := R.units; show A.units + 1 + 100 * 1 < 9000; omega)⟩
  refine PySem.W.len_K (K := KK w) (f := 97) ⟨hn, k₀, hL⟩ X₀ I rfl rfl (len_ok R1 hWv hv2 hM (by rw [sizeLine_eq]; omega) hw _ _ fun u s2 k2 ok2 hu => ?_)
  obtain ⟨t, rfl⟩ := d_int hu
  exact ⟨⟨by omega, by omega⟩, hQ _ _ (kps_trans k2 kps_tok) (d_ofInt _ _ _)⟩
end
end Mine
set_option maxRecDepth 100000
set_option maxHeartbeats 4000000
set_option linter.unusedVariables false
namespace Mine
open PySem PySem.Spec PySem.Calls PyProof.Rows PySem.W
def bareGo (ps : List (Str × Str)) (names : List Str) : List (Str × Str) := names.foldl (fun ps nm => ps.filter fun p => !(Txt.lower p.1 == Txt.lower nm)) ps
theorem bareGo_succ (ps : List (Str × Str)) {names : List Str} {i : Nat} (h : i < names.length) : bareGo ps (names.take (i + 1)) = (bareGo ps (names.take i)).filter fun p => !(Txt.lower p.1 == Txt.lower names[i]) := by
  unfold bareGo
  rw [List.take_add_one, List.getElem?_eq_getElem h, Option.toList_some, List.foldl_append]
  rfl
theorem bareGo_sub (ps : List (Str × Str)) (names : List Str) : (∀ p ∈ bareGo ps names, p ∈ ps) ∧ (bareGo ps names).length ≤ ps.length := by
  unfold bareGo
  induction names generalizing ps with
  | nil => exact ⟨fun _ h => h, Nat.le_refl _⟩
  | cons a r ih =>
    obtain ⟨h1, h2⟩ := ih (ps.filter fun p => !(Txt.lower p.1 == Txt.lower a))
    exact ⟨fun p hp => (List.mem_filter.mp (h1 p hp)).1, Nat.le_trans h2 (List.length_filter_le _ _)⟩
abbrev names6 : List Str := signs "ABCabc"
theorem nameable6 : ∀ x ∈ names6, Nameable x := by
  have h1 : ∀ x ∈ names6, PyData.strOk (Txt.lower x) = true ∧ x.length = 1 ∧ (Txt.lower x).cps.size = 1 ∧ Txt.lower x ∈ names12 := by decide +kernel
  intro x hx
  obtain ⟨a, b, c, d⟩ := h1 x hx
  exact ⟨a, by omega, miss1 _ d, by omega⟩
section
variable {prog : Program} {w : World} {W : List Addr} {A : Around} {env : Env} {s₀ s : Shared} {mg mb : Str → Option Value} {m cm : Str → Option Value} {v v1 v2 : Value} {l : Addr} {rest : List Stmt} {Ps : List VP} {value o e : Expr} {p p1 pos apos : Pos} {K : Frag} {ps : List (Str × Str)} {nm : Str}
theorem LsF.alive {h₀ h₁ : Heap} {v : Value} {h : Heap} (k : ∀ b o, h₁.get? b = some o → ∃ o', h₀.get? b = some o') (x : (LsF h₀ Ps).p v h) : (LsF h₁ Ps).p v h := by
  obtain ⟨a, n, vs, e, hn, g, r⟩ := x
  refine ⟨a, n, vs, e, ?_, g, r⟩
  cases q : h₁.get? a with
  | none => rfl
  | some o => obtain ⟨o', e'⟩ := k a o q; rw [hn] at e'; cases e'
theorem bare_ok (R : Room A 3) (hWv : Wd (KK w) mg mb (Vw W s.heap)) (hv : (HdI l).p v (Vw W s.heap)) (hlW : l ∈ W) (hM : Mu W l (ps.map pairV) s.heap) (hps : ∀ p ∈ ps, Fine p) (hsz : ps.length ≤ 1000) :
    EvK prog w [l] W A 237 [v] [] (fun u h' => (LsF s.heap ((bareGo ps names6).map pairV)).p u (Vw W h') ∧ Mu W l ((bareGo ps names6).map pairV) h') s := by
  refine ev_callK (K := KK w) R (hWv.mono (vw_kp _ _)) rfl rfl rfl rfl rfl rfl rfl rfl rfl rfl ?_
  intro L env A' W' s₁ he hA' R' hL hW' F kv kk hoff
  have hWs : ∀ b ∈ W, b ∈ W' := fun b hb => hW' ▸ List.mem_append_right _ hb
  have hcl : own env = [L] := by rw [he]; rfl
  have hWL : W' = L :: W := by rw [hW', hcl]; rfl
  have hlL : l ≠ L := fun z => by obtain ⟨us, ⟨n, g⟩, r⟩ := hM; rw [hoff l (hcl ▸ z ▸ .head _)] at g; cases g
  have hL0 : s.heap.get? L = none := hoff L (hcl ▸ .head _)
  clear hA' hW' R
  subst he
  have hW1 := hWv.mono kv
  have v1 := VP.mono _ kv hv
  have M1 : Mu W' l (ps.map pairV) s₁.heap := hM.go (fun o => kk _ o) kv
  have hX0 : ∀ b ∈ [l, L], (Vw [l] s.heap).get? b = none := fun b hb => by
    rcases List.mem_cons.mp hb with rfl | hb
    · exact hideAll_none _ (.head _)
    · rw [List.mem_singleton.mp hb]; exact none_of (vw_kp _ _) hL0
  have hXW : ∀ b ∈ [l, L], b ∈ W' := fun b hb => by
    rcases List.mem_cons.mp hb with rfl | hb
    · exact hWs _ hlW
    · rw [List.mem_singleton.mp hb, hWL]; exact .head _
  refine st_for F names6 [l, L] (Pit := D (.str "ABCabc")) (Pf := fun y => D (.str y))
    (fun i m cm h => m "rules" = some v ∧ Mu W' l ((bareGo ps (names6.take i)).map pairV) h)
    (fun i m cm h h' ⟨a, b⟩ k => ⟨a, b.mono k⟩) (fun i m cm h ⟨a, ⟨_, ⟨_, b⟩, _⟩⟩ c hc => (List.mem_cons.mp hc).elim (fun q => .inr ⟨_, q ▸ b⟩) fun q => .inl (hcl ▸ q)) (fun b hb => .tail _ (hcl ▸ hb)) hXW hX0
    pe_str (fun v s' _ h => srcx_str hXW R'.hd h) ⟨rfl, M1⟩ ?_ ?_
  · intro i y hy J s5 m5 cm5 v5 hJW hJ0 F5 ⟨q1, q2⟩ hv5 kv5 kx5 E5
    obtain ⟨hi, rfl⟩ := List.getElem?_eq_some_iff.mp hy
    have hJl : l ≠ J := fun z => hJW (by rw [← z]; exact hWs _ hlW)
    refine wpAny_assign_Name (store_local F5 (fun s6 F6 k6 => ?_) rfl)
    have hLJ : ∀ b ∈ [L], b ∈ J :: W' := fun b hb => by rw [List.mem_singleton.mp hb, hWL]; exact .tail _ (.head _)
    have kv6 := kb_vw hLJ k6
    have M6 := (Mu.out q2).kb' k6 (nin1 hlL) hLJ
    have I6 := VP.mono _ (kv5.trans kv6) v1
    have n6 := VP.mono _ kv6 hv5
    have hW6 := hW1.mono (kv5.trans kv6)
    obtain ⟨g1, g2⟩ := bareGo_sub ps (names6.take i)
    refine st_del (R'.less (by decide)) F6.ok hW6 (pe_name (ld_local F6 (x := "rules") (by show m5 _ = _; exact q1) I6)) (pe_name (ld_local F6 (x := "hand") rfl n6)) (.tail _ (hWs _ hlW)) M6 (nameable6 _ (List.getElem_mem hi)) (fun p hp => hps p (g1 p hp)) (by omega) fun s7 k7 ok7 M7 => ?_
    refine wpAny_execs_nil ⟨.inl rfl, _, _, F6.kb k7 ok7 (hide1 (by rw [hcl]; exact nin1 hlL) (hideAll_none _ (.head _))), ?_, ?_⟩
    · show m5 _ = _
      exact q1
    · rw [bareGo_succ _ hi]
      exact M7.hide hJl
  · rintro m5 cm5 s5 F5 ⟨q1, q2⟩ kx
    have kv5 : Kp (Vw W' s₁.heap) (Vw W' s5.heap) := kb_vw hXW kx
    have q2' : Mu W' l ((bareGo ps names6).map pairV) s5.heap := by rwa [List.take_length] at q2
    obtain ⟨g1, g2⟩ := bareGo_sub ps names6
    refine st_return F5 (pe_items (R'.less (by decide)) (hW1.mono kv5) (pe_name (ld_local F5 (x := "rules") q1 (VP.mono _ kv5 v1))) q2' (by omega)) fun u s6 F6 k6 hv6 => ⟨F6.done, fun b hb => F6.ok b (hWs _ hb), ?_, (q2'.mono (kps_kp k6)).sub hWs⟩
    refine VP.mono _ (vw_sub hWs) (LsF.alive (fun b o e => ?_) hv6)
    by_cases q : b = l
    · obtain ⟨us, ⟨n, g⟩, r⟩ := q2'
      exact ⟨_, q ▸ g⟩
    · exact ⟨o, kps_kp F5.done _ _ (vw_to e (nin1 q))⟩
end
end Mine
set_option maxRecDepth 100000
set_option maxHeartbeats 4000000
set_option linter.unusedVariables false
namespace Mine
open PySem PySem.Spec PySem.Calls PyProof.Rows PySem.W
/-! ## what an act does to the boxes -/
def hn (k h : Nat) : Str := if k % 2 = 0 then abc h else aBC h
def inBox (bs : List (Str × Str)) (h : Nat) : List Str := (bs.filter fun p => Txt.lower p.1 == abc h).map Prod.snd
def restOf (tk : Nat → List Str) (bs : List (Str × Str)) (h : Nat) : List Str := (uldGo (tk h).reverse [] (inBox bs h)).2
def lackOf (tk : Nat → List Str) (bs : List (Str × Str)) (h : Nat) : List Str := (uldGo (tk h).reverse [] (inBox bs h)).1
def cut (bs : List (Str × Str)) (h : Nat) : List (Str × Str) := bs.filter fun p => !(Txt.lower p.1 == abc h)
def splitP (x : Str) : Str × Str := (sign x 0, sign x 1)
def goStep (tk sd : Nat → List Str) (k h : Nat) (bs : List (Str × Str)) : List (Str × Str) := cut bs h ++ (restOf tk bs h).map (fun x => (hn k h, x)) ++ (sd h).map splitP
def goGo (tk sd : Nat → List Str) (row : List Nat) (bs : List (Str × Str)) : Nat → List (Str × Str)
  | 0 => bs
  | n + 1 => goStep tk sd n (row.getD n 0) (goGo tk sd row bs n)
def PairOk (p : Str × Str) : Prop := p.1 ∈ names6 ∧ (p.2 = xy 0 ∨ p.2 = xy 1)
structure PairFacts (p : Str × Str) : Prop where
  fine : Fine p
  lay : Layable p
theorem name6_facts : ∀ x ∈ names6, (PyData.strOk (Txt.lower x) = true ∧ x.cps.size = 1 ∧ PyData.strOk x = true) ∧ x ∈ names12 := by decide +kernel
theorem xy_facts {x : Str} (h : x = xy 0 ∨ x = xy 1) : PyData.strOk x = true ∧ x.cps.size = 1 ∧ x ∈ texts14 := by
  rcases h with rfl | rfl <;> decide +kernel
theorem PairOk.facts {p : Str × Str} (h : PairOk p) : PairFacts p := by
  obtain ⟨⟨a, b, c⟩, d⟩ := name6_facts p.1 h.1
  obtain ⟨e, f, g⟩ := xy_facts h.2
  have b' : p.1.length = 1 := b
  exact ⟨⟨a, by omega, c, e⟩, ⟨miss1 _ d, by omega, miss2 _ g, by omega⟩⟩
theorem hn_facts {h : Nat} (hh : h < 3) (k : Nat) : hn k h ∈ names6 ∧ Txt.lower (hn k h) = abc h ∧ hn k h ++ "-" ++ hn k h ∈ names12 ++ [aBC h ++ "-" ++ aBC h] ∧ Txt.lower (hn k h ++ "-" ++ hn k h) = abc h ++ "-" ++ abc h ∧ (hn k h).length = 1 ∧ PyData.strOk (hn k h) = true := by
  have : h = 0 ∨ h = 1 ∨ h = 2 := by omega
  unfold hn
  rcases this with rfl | rfl | rfl <;> split <;> decide +kernel
theorem nameable_hn {h : Nat} (hh : h < 3) (k : Nat) : Nameable (hn k h) := nameable6 _ (hn_facts hh k).1
theorem nameable_send {h : Nat} (hh : h < 3) (k : Nat) : Nameable (hn k h ++ "-" ++ hn k h) := by
  obtain ⟨_, _, _, e, _, _⟩ := hn_facts hh k
  have f : PyData.strOk (abc h ++ "-" ++ abc h) = true ∧ abc h ++ "-" ++ abc h ∈ names12 ∧ (abc h ++ "-" ++ abc h).cps.size = 3 := by
    have : h = 0 ∨ h = 1 ∨ h = 2 := by omega
    rcases this with rfl | rfl | rfl <;> decide +kernel
  have g : (hn k h ++ "-" ++ hn k h).length = 3 := by
    have : h = 0 ∨ h = 1 ∨ h = 2 := by omega
    unfold hn
    rcases this with rfl | rfl | rfl <;> split <;> decide +kernel
  exact ⟨by rw [e]; exact f.1, by omega, by rw [e]; exact miss1 _ f.2.1, by rw [e]; omega⟩
theorem split_ok : ∀ x ∈ posts12, PairOk (splitP x) := by
  have : ∀ x ∈ posts12, (splitP x).1 ∈ names6 ∧ ((splitP x).2 = xy 0 ∨ (splitP x).2 = xy 1) := by decide +kernel
  exact this
theorem uldGo_sub : ∀ (r ms ys : List Str), ∀ x ∈ (uldGo r ms ys).2, x ∈ ys
  | [], _, _, x, h => h
  | y :: r, ms, ys, x, h => by
    unfold uldGo at h
    split at h
    · exact List.mem_of_mem_erase (uldGo_sub r ms _ x h)
    · exact uldGo_sub r _ ys x h
theorem uldGo_len : ∀ (r ms ys : List Str), (uldGo r ms ys).2.length ≤ ys.length
  | [], _, _ => Nat.le_refl _
  | y :: r, ms, ys => by
    unfold uldGo
    split
    · exact Nat.le_trans (uldGo_len r ms _) List.length_erase_le
    · exact uldGo_len r _ ys
theorem inBox_ok {bs : List (Str × Str)} {h : Nat} (hb : ∀ p ∈ bs, PairOk p) : (∀ x ∈ inBox bs h, x = xy 0 ∨ x = xy 1) ∧ (inBox bs h).length ≤ bs.length := by
  unfold inBox
  refine ⟨fun x hx => ?_, by rw [List.length_map]; exact List.length_filter_le _ _⟩
  obtain ⟨p, hp, rfl⟩ := List.mem_map.mp hx
  exact (hb p (List.mem_filter.mp hp).1).2
theorem goStep_ok {tk sd : Nat → List Str} {k h : Nat} {bs : List (Str × Str)} (hh : h < 3) (hsd : ∀ x ∈ sd h, x ∈ posts12) (hb : ∀ p ∈ bs, PairOk p) : ∀ p ∈ goStep tk sd k h bs, PairOk p := by
  intro p hp
  unfold goStep at hp
  rcases List.mem_append.mp hp with hp | hp
  · rcases List.mem_append.mp hp with hp | hp
    · exact hb p (List.mem_filter.mp hp).1
    · obtain ⟨x, hx, rfl⟩ := List.mem_map.mp hp
      exact ⟨(hn_facts hh k).1, (inBox_ok hb).1 x (uldGo_sub _ _ _ x hx)⟩
  · obtain ⟨x, hx, rfl⟩ := List.mem_map.mp hp
    exact split_ok x (hsd x hx)
theorem goStep_len {tk sd : Nat → List Str} {k h : Nat} {bs : List (Str × Str)} (h2 : (sd h).length ≤ 2) : (goStep tk sd k h bs).length ≤ bs.length + 2 := by
  unfold goStep
  rw [List.length_append, List.length_append, List.length_map, List.length_map]
  have h1 : (restOf tk bs h).length ≤ (inBox bs h).length := uldGo_len _ _ _
  have h3 : (cut bs h).length + (inBox bs h).length = bs.length := by
    unfold cut inBox
    rw [List.length_map, Nat.add_comm]
    have key : ∀ l : List (Str × Str), (l.filter fun p => Txt.lower p.1 == abc h).length + (l.filter fun p => !(Txt.lower p.1 == abc h)).length = l.length := fun l => by
      induction l with
      | nil => rfl
      | cons a r ih =>
        rw [List.filter_cons, List.filter_cons]
        cases Txt.lower a.1 == abc h <;> simp <;> omega
    exact key bs
  omega
theorem goGo_ok {tk sd : Nat → List Str} {row : List Nat} {bs : List (Str × Str)} (hrow : ∀ r ∈ row, r < 3) (hsd : ∀ h, h < 3 → ∀ x ∈ sd h, x ∈ posts12) (hl2 : ∀ h, h < 3 → (sd h).length ≤ 2) (hb : ∀ p ∈ bs, PairOk p) :
    ∀ n, n ≤ row.length → (∀ p ∈ goGo tk sd row bs n, PairOk p) ∧ (goGo tk sd row bs n).length ≤ bs.length + 2 * n
  | 0, _ => ⟨hb, Nat.le_refl _⟩
  | n + 1, hn => by
    obtain ⟨h1, h2⟩ := goGo_ok hrow hsd hl2 hb n (Nat.le_of_succ_le hn)
    have hr : row.getD n 0 < 3 := by
      rw [List.getD_eq_getElem?_getD, List.getElem?_eq_getElem hn]
      exact hrow _ (List.getElem_mem hn)
    have h3 := goStep_len (tk := tk) (k := n) (bs := goGo tk sd row bs n) (hl2 _ hr)
    exact ⟨goStep_ok hr (hsd _ hr) h1, by show (goStep _ _ _ _ _).length ≤ _; omega⟩
/-- what the rules hold -/
structure RulesOk (tk sd : Nat → List Str) (rs : List (Str × Str)) : Prop where
  fine : ∀ p ∈ rs, Fine p
  len : rs.length ≤ 1000
  tk : ∀ h, h < 3 → (rs.filter fun p => Txt.lower p.1 == abc h).map Prod.snd = tk h
  sd : ∀ h, h < 3 → (rs.filter fun p => Txt.lower p.1 == abc h ++ "-" ++ abc h).map Prod.snd = sd h
section
variable {prog : Program} {w : World} {W : List Addr} {A : Around} {env : Env} {s₀ s : Shared} {mg mb : Str → Option Value} {m cm : Str → Option Value} {v v1 v2 : Value} {l : Addr} {rest : List Stmt} {Ps : List VP} {value o e : Expr} {p p1 pos apos cp : Pos} {K : Frag} {ps : List (Str × Str)} {nm : Str}
theorem st_ifNone {e : Expr} {n : Nat} {body : List Stmt} {Q : Flow → Shared → Prop} {E : Value → Shared → Prop} (h : ∀ E', wpAny (model prog w) A (eval e env) (fun v s' => v = .none ∧ wpAny (model prog w) A (execs rest env) Q E s') E' s)
    (hm : behindInMarks .IsNot (.Constant .none n p1) = false := by with_unfolding_all rfl) : wpAny (model prog w) A (execs (.If (.Compare e [.IsNot] [.Constant .none n p1] cp) body [] pos :: rest) env) Q E s := by
  refine wpAny_execs_cons (wpAny_If (wpAny_isTrue_Compare1 (wpAny_mono (h _) (fun v s1 h1 => ?_) fun _ _ e => e) hm))
  obtain ⟨rfl, h1⟩ := h1
  refine wpAny_Constant_none (wpAny_isNot_self rfl (wpAny_truthy_bool ?_))
  simp only [Bool.false_eq_true, if_false]
  exact wpAny_execs_nil h1
theorem wp_callD {id : Str} {rest : List Expr} {f : Addr} {o : Obj} {fd : FuncData} {Q E : Value → Shared → Prop} (hw : WOK W s.heap) (hn : PE prog w W A env s (.Name id p) (Is (.ref f))) (hfo : s.heap.get? f = some o) (hdat : o.data = .func fd)
    (ha : PEs prog w W A env s (e :: rest) Ps) (hc : ∀ vs s', Keeps s s' → VAll (Vw W s'.heap) Ps vs → wpAny (model prog w) A (call (.ref f) vs) Q E s')
    (he : starEach (e :: rest) env = (false, eval e env) :: starEach rest env := by rfl) : wpAny (model prog w) A (eval (.Call (.Name id p) (e :: rest) [] pos) env) Q E s := by
  refine wpAny_Call_NameR (hn s (kps_refl s) hw E _ fun v s1 k1 hv => ?_)
  have hv : v = .ref f := hv
  subst hv
  refine callWith_def hdat (ha s1 k1 (hw.mono (kps_kp k1)) _ E _ fun vs s2 k2 hvs => ?_) he
  exact ⟨kps_kp (kps_trans k1 k2) _ _ hfo, hc vs s2 (kps_trans k1 k2) hvs⟩
theorem pt_or3 {a b c : Bool} {e1 e2 e3 : Expr} (h1 : PT prog w W A env s₀ e1 a) (h2 : PT prog w W A env s₀ e2 b) (h3 : PT prog w W A env s₀ e3 c) : PT prog w W A env s₀ (.BoolOp .Or [e1, e2, e3] pos) (a || (b || c)) := by
  intro s k hw E Q hQ
  refine isTrue_or (h1 s k hw E _ fun s1 k1 => ?_)
  cases a with
  | true => exact hQ s1 k1
  | false =>
    simp only [Bool.false_eq_true, if_false]
    refine isTrue_or (h2 s1 (kps_trans k k1) (hw.mono (kps_kp k1)) E _ fun s2 k2 => ?_)
    cases b with
    | true => exact hQ s2 (kps_trans k1 k2)
    | false =>
      simp only [Bool.false_eq_true, if_false]
      have k12 := kps_trans k1 k2
      refine isTrue_or (h3 s2 (kps_trans k k12) (hw.mono (kps_kp k12)) E _ fun s3 k3 => ?_)
      cases c with
      | true => exact hQ s3 (kps_trans k12 k3)
      | false => exact isTrue_or_nil (hQ s3 (kps_trans k12 k3))
theorem pt_isNot {a : Addr} {e1 e2 : Expr} (h1 : PE prog w W A env s₀ e1 (Is (.ref a))) (h2 : PE prog w W A env s₀ e2 (Is (.ref a))) (hm : behindInMarks .IsNot e2 = false := by with_unfolding_all rfl) : PT prog w W A env s₀ (.Compare e1 [.IsNot] [e2] pos) false := by
  refine pt_cmp h1 h2 (fun x y s hx hy => ?_) hm
  rw [show x = .ref a from hx, show y = .ref a from hy]
  exact fun _ E Q hQ => wpAny_isNot_ref_self (hQ _ _ (kps_refl _) (d_ofBool _ _))
end
end Mine
set_option maxRecDepth 100000
set_option maxHeartbeats 4000000
set_option linter.unusedVariables false
namespace Mine
open PySem PySem.Spec PySem.Calls PyProof.Rows PySem.W
section
variable {prog : Program} {w : World} {W : List Addr} {A : Around} {env : Env} {s₀ s : Shared} {mg mb : Str → Option Value} {m cm : Str → Option Value} {vr vb vrow vs : Value} {lr lb : Addr} {rest : List Stmt} {Ps : List VP} {tk sd : Nat → List Str} {row : List Nat} {rs bs : List (Str × Str)}
theorem in2 {x : Addr} {X W : List Addr} (h : x ∈ W) (hs : ∀ b ∈ X, b ∈ W) : ∀ b ∈ x :: X, b ∈ W := fun b hb => (List.mem_cons.mp hb).elim (fun q => q ▸ h) (hs b)
theorem in1 {x : Addr} {W : List Addr} (h : x ∈ W) : ∀ b ∈ [x], b ∈ W := fun b hb => by rw [List.mem_singleton.mp hb]; exact h
theorem take_more {α β : Type} {f : α → β} {xs : List α} {as : List β} {j : Nat} (hj : j < xs.length) : as ++ (xs.take (j + 1)).map f = as ++ (xs.take j).map f ++ [f xs[j]] := by
  rw [List.take_add_one, List.getElem?_eq_getElem hj, Option.toList_some, List.map_append, List.append_assoc]
  rfl
theorem TpV.two {P1 P2 P1' P2' : VP} {v : Value} {h : Heap} (x : (TpV [P1, P2]).p v h) (h1 : ∀ u, P1.p u h → P1'.p u h) (h2 : ∀ u, P2.p u h → P2'.p u h) : (TpV [P1', P2']).p v h := by
  obtain ⟨a, n, us, e, g, r⟩ := x
  refine ⟨a, n, us, e, g, ?_⟩
  generalize us.toList = ul at r
  obtain ⟨⟩ | ⟨r1, r⟩ := r
  obtain ⟨⟩ | ⟨r2, r⟩ := r
  cases r
  exact .cons (h1 _ r1) (.cons (h2 _ r2) .nil)
/-- two lists of strings, told as a tuple -/
abbrev twoD (xs ys : List Str) : PyData := .tuple [.list (xs.map .str), .list (ys.map .str)]
theorem two_good {xs ys : List Str} (hx : ∀ x ∈ xs, PyData.strOk x = true) (hy : ∀ x ∈ ys, PyData.strOk x = true) : SeqAt.shaped (twoD xs ys) = true := by
  have g : Good 2 (twoD xs ys) := good_tuple fun d hd => by
    rcases List.mem_cons.mp hd with rfl | hd
    · exact good_list fun d hd => by obtain ⟨x, h, rfl⟩ := List.mem_map.mp hd; exact good_str (hx x h)
    · rw [List.mem_singleton.mp hd]
      exact good_list fun d hd => by obtain ⟨x, h, rfl⟩ := List.mem_map.mp hd; exact good_str (hy x h)
  exact g.shaped (by decide)
theorem two_eqv (xs ys xs' ys' : List Str) : PyData.eqv (twoD xs ys) (twoD xs' ys') = (xs == xs' && ys == ys') := by
  simp [PyData.eqv, PyData.eqvAll, eqvAll_map tells_str.eqv]
theorem op_ne_two {xs ys xs' ys' : List Str} (hx : ∀ x ∈ xs, PyData.strOk x = true) (hy : ∀ x ∈ ys, PyData.strOk x = true) (hx' : ∀ x ∈ xs', PyData.strOk x = true) (hy' : ∀ x ∈ ys', PyData.strOk x = true) (hu : A.units + 64 < cLine) (a b : Value) (s : Shared)
    (ha : (D (twoD xs ys)).p a (Vw W s.heap)) (hb : (D (twoD xs' ys')).p b (Vw W s.heap)) : Ev prog w W A (compareOp .NotEq a b) (D (.bool (!(xs == xs' && ys == ys')))) s := by
  have := op_ne (prog := prog) (w := w) (two_good hx hy) (two_good hx' hy') hu a b s ha hb
  rwa [two_eqv] at this
theorem two_of {xs ys : List Str} {v : Value} {h : Heap} (x : (TpV [FL .str xs, FL .str ys]).p v h) : (D (twoD xs ys)).p v h :=
  TpV.toD (ds := [.list (xs.map .str), .list (ys.map .str)]) (TpV.two x (fun _ h => lsD h) (fun _ h => lsD h))
abbrev pairD (p : Str × Str) : PyData := .tuple [.str p.1, .str p.2]
theorem pairs_D {ps : List (Str × Str)} {v : Value} {h : Heap} (x : (LsV (ps.map pairV)).p v h) : (LsV (ps.map fun p => D (pairD p))).p v h := by
  obtain ⟨a, n, us, e, g, r⟩ := x
  refine ⟨a, n, us, e, g, ?_⟩
  generalize us.toList = ul at r
  induction ps generalizing ul with
  | nil => cases r; exact .nil
  | cons p ps ih =>
    obtain ⟨⟩ | ⟨r1, r⟩ := r
    exact .cons (TpV.toD (ds := [.str p.1, .str p.2]) r1) (ih _ r)
theorem pair_eqv (p q : Str × Str) : PyData.eqv (pairD p) (pairD q) = (p == q) := by
  obtain ⟨a, b⟩ := p
  obtain ⟨c, d⟩ := q
  simp only [PyData.eqv, PyData.eqvAll, Bool.and_true]
  rfl
theorem pair_good {p : Str × Str} (h1 : PyData.strOk p.1 = true) (h2 : PyData.strOk p.2 = true) : Good 1 (pairD p) := good_tuple fun d hd => by
  rcases List.mem_cons.mp hd with rfl | hd
  · exact good_str h1
  · rw [List.mem_singleton.mp hd]; exact good_str h2
theorem op_ne_pairs {ps qs : List (Str × Str)} (hp : ∀ p ∈ ps, Fine p) (hq : ∀ p ∈ qs, Fine p) (hu : A.units + 64 < cLine) (a b : Value) (s : Shared) (ha : (LsV (ps.map pairV)).p a (Vw W s.heap)) (hb : (LsV (qs.map pairV)).p b (Vw W s.heap)) :
    Ev prog w W A (compareOp .NotEq a b) (D (.bool (!(ps == qs)))) s :=
  op_ne_ls (f := pairD) (n := 1) pair_eqv (fun p h => pair_good (hp p h).o1 (hp p h).o2) (fun p h => pair_good (hq p h).o1 (hq p h).o2) (by decide) hu a b s (pairs_D ha) (pairs_D hb)
theorem op_ne_pairs_self {ps : List (Str × Str)} (hp : ∀ p ∈ ps, PairOk p) (hu : A.units + 64 < cLine) (a b : Value) (s : Shared) (ha : (LsV (ps.map pairV)).p a (Vw W s.heap)) (hb : (LsV (ps.map pairV)).p b (Vw W s.heap)) :
    Ev prog w W A (compareOp .NotEq a b) (D (.bool false)) s := by
  have := op_ne_pairs (prog := prog) (w := w) (fun p h => (hp p h).facts.fine) (fun p h => (hp p h).facts.fine) hu a b s ha hb
  simpa using this
/-- o.get_all(e): the list told -/
theorem pe_getL {pl : Sem Bool} {l : Addr} {ps : List (Str × Str)} {o e : Expr} {nm a : Str} {L : List Str} {apos pos : Pos} (R : Room A 2) (hWv : Wd (KK w) mg mb (Vw W s₀.heap)) (ho : PE prog w W A env s₀ o (HdI l)) (hn : PE prog w W A env s₀ e (D (.str nm))) (hM : Mu W l (ps.map pairV) s₀.heap) (N : Nameable nm) (hps : ∀ p ∈ ps, Fine p) (hsz : ps.length ≤ 1000)
    (hlow : Txt.lower nm = a) (hL : (ps.filter fun p => Txt.lower p.1 == a).map Prod.snd = L)
    (he : eval (.Call (.Attribute o "get_all" apos) [e] [] pos) env = (do
      let ov ← eval o env
      standAt apos.atName
      let (f, first) ← holding [ov] (getMethod ov "get_all" pl)
      callWith pos f first (backTo pos (starEach [e] env)) (backToKw pos (keywordEach [] env))) := by rfl)
    (hse : starEach [e] env = (false, eval e env) :: starEach [] env := by rfl) (hpl : (backTo pos (starEach [] env)).any (·.1) = false := by rfl) :
    PE prog w W A env s₀ (.Call (.Attribute o "get_all" apos) [e] [] pos) (LsF s₀.heap (L.map fun x => D (.str x))) := by
  have h := pe_getall (prog := prog) (w := w) R hWv ho hn hM N hps hsz he hse hpl
  rw [hlow] at h
  rw [← hL, List.map_map]
  exact h
theorem go_ok (R : Room A 3) (hWv : Wd (KK w) mg mb (Vw W s.heap)) (hvr : (HdI lr).p vr (Vw W s.heap)) (hvb : (HdI lb).p vb (Vw W s.heap)) (hrw : (FL .str (row.map abc)).p vrow (Vw W s.heap)) (hvs : (HandsV prog w sd).p vs (Vw W s.heap))
    (hlr : lr ∈ W) (hlb : lb ∈ W) (hne : lr ≠ lb) (Mr : Mu W lr (rs.map pairV) s.heap) (Mb : Mu W lb (bs.map pairV) s.heap) (RO : RulesOk tk sd rs) (hb : ∀ p ∈ bs, PairOk p) (hlen : bs.length ≤ 50) (hlrow : row.length ≤ 6) (hrow : ∀ r ∈ row, r < 3)
    (hsd : ∀ h, h < 3 → ∀ x ∈ sd h, x ∈ posts12) (hl2 : ∀ h, h < 3 → (sd h).length ≤ 2) (htk : ∀ h, h < 3 → ∀ x ∈ tk h, x = xy 0 ∨ x = xy 1) (hl4 : ∀ h, h < 3 → (tk h).length ≤ 2)
    (hgo : ∀ n, n < row.length → lackOf tk (goGo tk sd row bs n) (row.getD n 0) = []) :
    EvK prog w [lb] W A 230 [vr, vb, vrow, vs] [] (fun u h' => u = .bool true ∧ Mu W lb ((goGo tk sd row bs row.length).map pairV) h') s := by
  refine ev_callK (K := KK w) R (hWv.mono (vw_kp _ _)) rfl rfl rfl rfl rfl rfl rfl rfl rfl rfl ?_
  intro L env A' W' s₁ he hA' R' hL hW' F kv kk hoff
  have hWs : ∀ b ∈ W, b ∈ W' := fun b hb => hW' ▸ List.mem_append_right _ hb
  have hbo : lb ∉ own env := fun hb => by obtain ⟨us, ⟨n, g⟩, r⟩ := Mb; rw [hoff lb hb] at g; cases g
  have hro : lr ∉ own env := fun hb => by obtain ⟨us, ⟨n, g⟩, r⟩ := Mr; rw [hoff lr hb] at g; cases g
  obtain ⟨O, hO⟩ : ∃ O, O = own env := ⟨_, rfl⟩
  rw [← hO] at hbo hro
  have hcO : ∀ {n c}, env.cells.lookup n = some c → c ∈ O := fun h => hO ▸ mem_own_cell h
  have hLO : L ∈ O := by rw [hO, he]; exact .head _
  have hOW : ∀ b ∈ O, b ∈ W' := fun b hb => by rw [hW', ← hO]; exact List.mem_append_left _ hb
  have hO0 : ∀ b ∈ O, s.heap.get? b = none := fun b hb => hoff b (hO ▸ hb)
  clear hA' hW' R
  subst he
  have hW1 := hWv.mono kv
  have r1 := VP.mono _ kv hvr
  have b1 := VP.mono _ kv hvb
  have w1 := VP.mono _ kv hrw
  have d1 := VP.mono _ kv hvs
  have Mr1 : Mu W' lr (rs.map pairV) s₁.heap := Mr.go (fun o => kk _ o) kv
  have Mb1 : Mu W' lb (bs.map pairV) s₁.heap := Mb.go (fun o => kk _ o) kv
  have hXW : ∀ b ∈ lb :: O, b ∈ W' := in2 (hWs _ hlb) hOW
  have hX0 : ∀ b ∈ lb :: O, (Vw [lb] s.heap).get? b = none := fun b hb => by
    rcases List.mem_cons.mp hb with rfl | hb
    · exact hideAll_none _ (.head _)
    · exact none_of (vw_kp _ _) (hO0 b hb)
  have hrX : lr ∉ lb :: O := fun z => (List.mem_cons.mp z).elim hne hro
  have hsz : row.length ≤ sizeLine := by rw [sizeLine_eq]; omega
  refine st_for F (List.range row.length) (lb :: O) (Pit := RangeV 0 (row.length : Nat) 1) (Pf := fun i : Nat => D (.int (i : Int)))
    (fun i m cm h => m "rules" = some vr ∧ m "boxes" = some vb ∧ m "sends" = some vs ∧ cm "row" = some vrow ∧ Mu W' lb ((goGo tk sd row bs i).map pairV) h)
    (fun i m cm h h' ⟨a, b, c, d, e⟩ k => ⟨a, b, c, d, e.mono k⟩) (fun i m cm h ⟨_, _, _, _, ⟨_, ⟨_, b⟩, _⟩⟩ c hc => (List.mem_cons.mp hc).elim (fun q => .inr ⟨_, q ▸ b⟩) fun q => .inl (hO ▸ q)) (fun b hb => .tail _ (hO ▸ hb)) hXW hX0
    ?_ (fun v s' _ h => srcx_upto hXW R'.hd hsz h) ⟨rfl, rfl, rfl, rfl, Mb1⟩ ?_ ?_
  · refine pe_call_type (pe_built (hW1.mono (vw_kp _ _)) rfl boot_range) (pes_cons (pe_call_builtin (pe_built (hW1.mono (vw_kp _ _)) rfl boot_len) (pes_cons (pe_name (ld_cell F (x := "row") rfl rfl w1)) pes_nil) (fun vs s k h => ?_)) pes_nil) (fun vs s k h => call_upto vs s h)
    have := call_len' (prog := prog) (w := w) (A := A') (W := W') (g := fun x => D (.str x)) (xs := row.map abc) (by simpa using hsz) vs s h
    simpa using this
  · intro i y hy I s5 m5 cm5 v5 hIW hI0 F5 ⟨q1, q2, q3, q4, q5⟩ hv5 kv5 kx5 E5
    obtain ⟨hi', hyi⟩ : i < row.length ∧ i = y := by
      have := List.getElem?_eq_some_iff.mp hy
      obtain ⟨h1, h2⟩ := this
      rw [List.getElem_range] at h2
      rw [List.length_range] at h1
      exact ⟨h1, h2⟩
    subst hyi
    have hh : row.getD i 0 < 3 := by
      rw [List.getD_eq_getElem?_getD, List.getElem?_eq_getElem hi']
      exact hrow _ (List.getElem_mem hi')
    have hrg : ((row.map abc).map fun x => D (.str x))[i]? = some (D (.str (abc (row.getD i 0)))) := by
      simp [List.getD_eq_getElem?_getD, hi']
    obtain ⟨G1, G2⟩ := goGo_ok (tk := tk) (bs := bs) hrow hsd hl2 hb i (Nat.le_of_lt hi')
    have hlack := hgo i hi'
    have hgs : goGo tk sd row bs (i + 1) = goStep tk sd i (row.getD i 0) (goGo tk sd row bs i) := rfl
    have G2' : (goGo tk sd row bs i).length ≤ 62 := by omega
    generalize hhd : row.getD i 0 = h at *
    generalize goGo tk sd row bs i = cs at *
    have hIb : lb ≠ I := fun z => hIW (z ▸ hWs _ hlb)
    have hIr : lr ≠ I := fun z => hIW (z ▸ hWs _ hlr)
    have hIO : I ∉ O := fun z => hIW (hOW _ z)
    have hOI : ∀ b ∈ O, b ∈ I :: W' := fun b hb => .tail _ (hOW b hb)
    have Mb5 : Mu (I :: W') lb (cs.map pairV) s5.heap := Mu.out q5
    have Mr5 : Mu (I :: W') lr (rs.map pairV) s5.heap := Mr1.go (fun o q => Heap.of_hide (kx5 _ _ (vw_to q hrX))) kv5
    have hW5 := hW1.mono kv5
    have r5 := VP.mono _ kv5 r1
    have b5 := VP.mono _ kv5 b1
    have w5 := VP.mono _ kv5 w1
    have d5 := VP.mono _ kv5 d1
    have hc1 : ∀ {W₂ : List Addr} {c : Addr}, c ∈ O → (∀ b ∈ O, b ∈ W₂) → ∀ b ∈ [c], b ∈ W₂ := fun hc h => in1 (h _ hc)
    have hcb : ∀ {c : Addr}, c ∈ O → lb ∉ [c] := fun hc z => hbo (by rw [List.mem_singleton.mp z]; exact hc)
    have hcr : ∀ {c : Addr}, c ∈ O → lr ∉ [c] := fun hc z => hro (by rw [List.mem_singleton.mp z]; exact hc)
    -- k
    refine wpAny_assign_Name (store_cell F5 rfl (fun s6 F6 k6 => ?_) rfl)
    have kv6 : Kp (Vw (I :: W') s5.heap) (Vw (I :: W') s6.heap) := kb_vw (hc1 (hcO (n := "k") rfl) hOI) k6
    have y6 := VP.mono _ kv6 hv5
    have r6 := VP.mono _ kv6 r5
    have b6 := VP.mono _ kv6 b5
    have w6 := VP.mono _ kv6 w5
    have d6 := VP.mono _ kv6 d5
    have hW6 := hW5.mono kv6
    have Mb6 := Mb5.kb' k6 (hcb (hcO (n := "k") rfl)) (hc1 (hcO (n := "k") rfl) hOI)
    have Mr6 := Mr5.kb' k6 (hcr (hcO (n := "k") rfl)) (hc1 (hcO (n := "k") rfl) hOI)
    -- hand
    have hup : Txt.upper (abc h) = aBC h ∧ (abc h).length ≤ 5592405 := by
      have : h = 0 ∨ h = 1 ∨ h = 2 := by omega
      rcases this with rfl | rfl | rfl <;> decide +kernel
    have pe_rk : ∀ {pos1 pos2 pos3 : Pos}, PE prog w (I :: W') A' _ s6 (.Subscript (.Name "row" pos1) (.Name "k" pos2) pos3) (D (.str (abc h))) := fun {_ _ _} => pe_sub (pe_name (ld_cell F6 (x := "row") rfl (by show cm5 _ = _; exact q4) w6)) (pe_name (ld_cell F6 (x := "k") rfl rfl y6)) (sub_list hrg (by omega))
    refine st_cellK F6 (P := D (.str (hn i h))) (pe_sub (P2 := D (.int ((i % 2 : Nat) : Int))) (pe_tuple (pes_cons pe_rk (pes_cons (pe_meth (P1 := D (.str (abc h))) pe_rk pes_nil PySem.F.plainAttrs_str PySem.F.slot_str_upper PySem.F.type_str_upper callee_str (fun v vs s _ h1 h2 => call_upper hup.1 hup.2 v vs s h1 h2)) pes_nil)) (by show 2 ≤ sizeLine; decide)) (pe_bin (pe_name (ld_cell F6 (x := "k") rfl rfl y6)) (pe_nat (i := 2)) (op_modN (by decide))) (sub_tuple ?_ (by omega))) rfl fun vh s7 F7 k7 h7 => ?_
    · unfold hn
      rcases Nat.mod_two_eq_zero_or_one i with e | e <;> rw [e] <;> rfl
    have kv7 : Kp (Vw (I :: W') s6.heap) (Vw (I :: W') s7.heap) := kb_vw (hc1 (hcO (n := "hand") rfl) hOI) k7
    have y7 := VP.mono _ kv7 y6
    have r7 := VP.mono _ kv7 r6
    have b7 := VP.mono _ kv7 b6
    have w7 := VP.mono _ kv7 w6
    have d7 := VP.mono _ kv7 d6
    have hW7 := hW6.mono kv7
    have Mb7 := Mb6.kb' k7 (hcb (hcO (n := "hand") rfl)) (hc1 (hcO (n := "hand") rfl) hOI)
    have Mr7 := Mr6.kb' k7 (hcr (hcO (n := "hand") rfl)) (hc1 (hcO (n := "hand") rfl) hOI)
    clear y6 r6 b6 w6 d6 hW6 Mb6 Mr6 pe_rk
    have N := hn_facts hh i
    -- takes
    refine st_localK F7 (P := LsF s7.heap ((tk h).map fun x => D (.str x))) (pe_getL R' hW7 (pe_name (ld_local F7 (x := "rules") (by show m5 _ = _; exact q1) r7)) (pe_name (ld_cell F7 (x := "hand") rfl rfl h7)) Mr7 (nameable_hn hh i) RO.fine RO.len N.2.1 (RO.tk h hh)) fun vt s8 F8 k8 ht => ?_
    obtain ⟨e, rfl, he0, heW, Me⟩ := LsF.mu ht
    have F9 := F8.hide Me
    have hLe : ∀ b ∈ [L], b ∈ I :: W' := hc1 hLO hOI
    have heb : lb ≠ e := fun z => by obtain ⟨us, ⟨n, g⟩, r⟩ := Mb7; rw [z, he0] at g; cases g
    have her : lr ≠ e := fun z => by obtain ⟨us, ⟨n, g⟩, r⟩ := Mr7; rw [z, he0] at g; cases g
    have kv8 : Kp (Vw (I :: W') s7.heap) (Vw (e :: I :: W') s8.heap) := kv_hide (kb_vw hLe k8) he0
    have y8 := VP.mono _ kv8 y7
    have r8 := VP.mono _ kv8 r7
    have b8 := VP.mono _ kv8 b7
    have w8 := VP.mono _ kv8 w7
    have d8 := VP.mono _ kv8 d7
    have h8 := VP.mono _ kv8 h7
    have hW8 := hW7.mono kv8
    have Mb8 : Mu (e :: I :: W') lb (cs.map pairV) s8.heap := Mb7.go (kb_get k8 (hcb hLO)) kv8
    have Mr8 : Mu (e :: I :: W') lr (rs.map pairV) s8.heap := Mr7.go (kb_get k8 (hcr hLO)) kv8
    clear y7 r7 b7 w7 d7 hW7 Mb7 Mr7 ht
    have hOe : ∀ b ∈ O, b ∈ e :: I :: W' := fun b hb => .tail _ (hOI b hb)
    -- box
    have pe_rk : ∀ {pos1 pos2 pos3 : Pos}, PE prog w (e :: I :: W') A' _ s8 (.Subscript (.Name "row" pos1) (.Name "k" pos2) pos3) (D (.str (abc h))) := fun {_ _ _} => pe_sub (pe_name (ld_cell F9 (x := "row") rfl (by show cm5 _ = _; exact q4) w8)) (pe_name (ld_cell F9 (x := "k") rfl rfl y8)) (sub_list hrg (by omega))
    refine st_localK F9 (P := LsF s8.heap ((inBox cs h).map fun x => D (.str x))) (pe_getL (nm := hn (i + 1) h) R' hW8 (pe_name (ld_local F9 (x := "boxes") (by show m5 _ = _; exact q2) b8)) (pe_sub (P2 := D (.int ((i % 2 : Nat) : Int))) (pe_tuple (pes_cons (pe_meth (P1 := D (.str (abc h))) pe_rk pes_nil PySem.F.plainAttrs_str PySem.F.slot_str_upper PySem.F.type_str_upper callee_str (fun v vs s _ h1 h2 => call_upper hup.1 hup.2 v vs s h1 h2)) (pes_cons pe_rk pes_nil)) (by show 2 ≤ sizeLine; decide)) (pe_bin (pe_name (ld_cell F9 (x := "k") rfl rfl y8)) (pe_nat (i := 2)) (op_modN (by decide))) (sub_tuple ?_ (by omega))) Mb8 (nameable_hn hh (i + 1)) (fun p hp => (G1 p hp).facts.fine) (by omega) (hn_facts hh (i + 1)).2.1 rfl) fun vb' s9 F10 k9 hb9 => ?_
    · unfold hn
      rcases Nat.mod_two_eq_zero_or_one i with e | e <;> rw [e] <;> rw [show (i + 1) % 2 = 1 - i % 2 by omega, e] <;> rfl
    obtain ⟨b, rfl, hb0, hbW, Mx⟩ := LsF.mu hb9
    have F11 := F10.hide Mx
    have hbb : lb ≠ b := fun z => by obtain ⟨us, ⟨n, g⟩, r⟩ := Mb8; rw [z, hb0] at g; cases g
    have hbr : lr ≠ b := fun z => by obtain ⟨us, ⟨n, g⟩, r⟩ := Mr8; rw [z, hb0] at g; cases g
    have hbe : e ≠ b := fun z => by obtain ⟨us, ⟨n, g⟩, r⟩ := Me; rw [z, hb0] at g; cases g
    have kv9 : Kp (Vw (e :: I :: W') s8.heap) (Vw (b :: e :: I :: W') s9.heap) := kv_hide (kb_vw (hc1 hLO hOe) k9) hb0
    have y9 := VP.mono _ kv9 y8
    have r9 := VP.mono _ kv9 r8
    have b9 := VP.mono _ kv9 b8
    have w9 := VP.mono _ kv9 w8
    have d9 := VP.mono _ kv9 d8
    have h9 := VP.mono _ kv9 h8
    have hW9 := hW8.mono kv9
    have Mb9 : Mu (b :: e :: I :: W') lb (cs.map pairV) s9.heap := Mb8.go (kb_get k9 (hcb hLO)) kv9
    have Mr9 : Mu (b :: e :: I :: W') lr (rs.map pairV) s9.heap := Mr8.go (kb_get k9 (hcr hLO)) kv9
    have heO : e ∉ O := fun z => heW (hOI _ z)
    have Me9 : Mu (b :: e :: I :: W') e ((tk h).map fun x => D (.str x)) s9.heap := Me.go (kb_get k9 (nin1 fun z => heO (by rw [z]; exact hLO))) kv9
    clear y8 r8 b8 w8 d8 hW8 Mb8 Mr8 hb9 Me pe_rk
    have hlackA : (uldGo (tk h).reverse [] (inBox cs h)).1 = [] := hlack
    obtain ⟨X1, X2⟩ := inBox_ok (h := h) G1
    -- told
    refine st_assign (wp_callD (Ps := [Is (.ref e), Is (.ref b)]) F11.ok (pe_global (v := .ref 45) (hW9.mono (vw_kp _ _)) rfl) ((hW9.mono (vw_kp _ _)).inK 45 _ rfl) rfl (pes_cons (pe_name (ld_local F11 (x := "takes") rfl rfl)) (pes_cons (pe_name (ld_local F11 (x := "box") rfl rfl)) pes_nil)) fun vs' s10 k10 hvs' => ?_)
    obtain ⟨⟩ | ⟨hx1, hvs'⟩ := hvs'
    obtain ⟨⟩ | ⟨hx2, hvs'⟩ := hvs'
    cases hvs'
    rw [show _ = Value.ref e from hx1, show _ = Value.ref b from hx2]
    have kv10 := vw_mono (W := b :: e :: I :: W') (kps_kp k10)
    refine uld_ok (prog := prog) (w := w) (mg := mg) (mb := mb) tells_str (fs := []) (R'.less (by decide)) (hW9.mono kv10) (fun b hb => nomatch hb) (.tail _ (.head _)) (.head _) hbe (fun z => nomatch z) (fun z => nomatch z) (Me9.mono (kps_kp k10)) ((Mx.go (fun o z => z) (Kp.refl _)).mono (kps_kp k10)) (by have := hl4 h hh; rw [sizeLine_eq]; omega) (by rw [sizeLine_eq]; omega) (fun x hx => (xy_facts (htk h hh x hx)).1) (fun x hx => (xy_facts (X1 x hx)).1) (fun z => absurd hlackA z) (F11.ok.mono (kps_kp k10)) _ _ fun vt s11 k11 ok11 ⟨hto, Me11, Mx11, _⟩ => ?_
    rw [hlackA] at hto
    have hbO : b ∉ O := fun z => hbW (hOe _ z)
    have hM11 : ∀ c ∈ [e, b], c ∈ b :: e :: I :: W' := fun c hc => (List.mem_cons.mp hc).elim (fun q => q ▸ .tail _ (.head _)) fun q => by rw [List.mem_singleton.mp q]; exact .head _
    have hs2 : ∀ c ∈ I :: W', c ∈ b :: e :: I :: W' := fun c hc => .tail _ (.tail _ hc)
    have hbW2 : b ∉ I :: W' := fun z => hbW (.tail _ z)
    have F12 := ((F11.keeps k10).kb k11 ok11 fun c hc => by
      rcases List.mem_cons.mp hc with rfl | hc
      · exact ⟨by rw [← hO]; exact heO, none_of F7.keep he0⟩
      · rw [List.mem_singleton.mp hc]
        exact ⟨by rw [← hO]; exact hbO, none_of F9.keep hb0⟩).hideLess (W' := I :: W') hs2 F5.own
    have kv11 : Kp (Vw (b :: e :: I :: W') s9.heap) (Vw (I :: W') s11.heap) := (kv10.trans (kb_vw hM11 k11)).trans (vw_sub hs2)
    have Mb11 : Mu (I :: W') lb (cs.map pairV) s11.heap := ((Mb9.mono (kps_kp k10)).kb' k11 (fun z => (List.mem_cons.mp z).elim heb fun z => hbb (List.mem_singleton.mp z)) hM11).sub hs2
    have Mr11 : Mu (I :: W') lr (rs.map pairV) s11.heap := ((Mr9.mono (kps_kp k10)).kb' k11 (fun z => (List.mem_cons.mp z).elim her fun z => hbr (List.mem_singleton.mp z)) hM11).sub hs2
    have ls11 : (FL .str []).p (.ref e) (Vw (I :: W') s11.heap) := Me11.see hs2 heW
    have lx11 : (FL .str (restOf tk cs h)).p (.ref b) (Vw (I :: W') s11.heap) := Mx11.see hs2 hbW2
    have to11 := VP.mono _ (vw_sub (h := s11.heap) hs2) hto
    refine store_local F12 (fun s12 F13 k12 => ?_) rfl
    have kv12' : Kp (Vw (I :: W') s11.heap) (Vw (I :: W') s12.heap) := kb_vw (hc1 hLO hOI) k12
    have kv12 := kv11.trans kv12'
    have y12 := VP.mono _ kv12 y9
    have r12 := VP.mono _ kv12 r9
    have b12 := VP.mono _ kv12 b9
    have w12 := VP.mono _ kv12 w9
    have d12 := VP.mono _ kv12 d9
    have h12 := VP.mono _ kv12 h9
    have hW12 := hW9.mono kv12
    have ls12 := VP.mono _ kv12' ls11
    have lx12 := VP.mono _ kv12' lx11
    have to12 := VP.mono _ kv12' to11
    have Mb12 := Mb11.kb' k12 (hcb hLO) (hc1 hLO hOI)
    have Mr12 := Mr11.kb' k12 (hcr hLO) (hc1 hLO hOI)
    clear y9 r9 b9 w9 d9 h9 hW9 Mb9 Mr9 Me9 Mx Me11 Mx11 hto to11 ls11 lx11 Mb11 Mr11 kv11 kv12'
    have hrx : ∀ x ∈ restOf tk cs h, PyData.strOk x = true := fun x hx => (xy_facts (X1 x (uldGo_sub _ _ _ x hx))).1
    -- if
    refine st_if F13 (b := false) (pt_or3 (a := false) (b := false) (c := false) ?_ ?_ ?_) (fun hb => nomatch hb) (fun _ s13 F14 k13 => wpAny_execs_nil ?_)
    · refine pt_cmp (P1 := D (twoD [] (restOf tk cs h))) (P2 := D (twoD [] (restOf tk cs h))) (pe_name (ld_local F13 (x := "told") rfl (two_of (TpV.two to12 (fun u hu => LsF.toLs hu) (fun u hu => by rw [show u = .ref b from hu]; exact lx12))))) ((pe_tuple (pes_cons (pe_list pes_nil (by decide)) (pes_cons (pe_name (ld_local F13 (x := "box") rfl lx12)) pes_nil)) (show 2 ≤ sizeLine by decide)).sub fun v h hv => two_of hv) (fun a b s ha hb => ?_)
      have := op_ne_two (prog := prog) (w := w) (A := A') (W := I :: W') (xs := []) (xs' := []) (fun x hx => nomatch hx) hrx (fun x hx => nomatch hx) hrx R'.un a b s ha hb
      simpa using this
    · exact pt_isNot (pe_sub (pe_name (ld_local F13 (x := "told") rfl to12)) (pe_nat (i := 1)) (sub_tuple rfl (by decide))) (pe_name (ld_local F13 (x := "box") rfl rfl))
    · exact pt_cmp (P1 := FL .str []) (P2 := FL .str []) (pe_name (ld_local F13 (x := "takes") rfl ls12)) (pe_list pes_nil (by decide)) (fun a b s ha hb => op_ne_ls (xs := ([] : List Str)) (ys := []) tells_str.eqv (by intro x hx; cases hx) (by intro x hx; cases hx) (n := 0) (by decide) R'.un a b s ha hb)
    have kv13 := vw_mono (W := I :: W') (kps_kp k13)
    have y13 := VP.mono _ kv13 y12
    have r13 := VP.mono _ kv13 r12
    have b13 := VP.mono _ kv13 b12
    have w13 := VP.mono _ kv13 w12
    have d13 := VP.mono _ kv13 d12
    have h13 := VP.mono _ kv13 h12
    have lx13 := VP.mono _ kv13 lx12
    have hW13 := hW12.mono kv13
    have Mb13 := Mb12.mono (kps_kp k13)
    have Mr13 := Mr12.mono (kps_kp k13)
    clear y12 r12 b12 w12 d12 h12 lx12 hW12 Mb12 Mr12 ls12 to12 kv12 kv13
    -- ahead
    refine st_localK F14 (P := LsF s13.heap (cs.map pairV)) (pe_items (R'.less (by decide)) hW13 (pe_name (ld_local F14 (x := "boxes") (by show m5 _ = _; exact q2) b13)) Mb13 (by omega)) fun va s14 F15 k14 hah => ?_
    obtain ⟨q, rfl, hq0, hqW, Mq⟩ := LsF.mu hah
    have F16 := F15.hide Mq
    have hbq : lb ≠ q := fun z => by obtain ⟨us, ⟨n, g⟩, r⟩ := Mb13; rw [z, hq0] at g; cases g
    have hrq : lr ≠ q := fun z => by obtain ⟨us, ⟨n, g⟩, r⟩ := Mr13; rw [z, hq0] at g; cases g
    have kv14 : Kp (Vw (I :: W') s13.heap) (Vw (q :: I :: W') s14.heap) := kv_hide (kb_vw (hc1 hLO hOI) k14) hq0
    have y14 := VP.mono _ kv14 y13
    have r14 := VP.mono _ kv14 r13
    have b14 := VP.mono _ kv14 b13
    have w14 := VP.mono _ kv14 w13
    have d14 := VP.mono _ kv14 d13
    have h14 := VP.mono _ kv14 h13
    have lx14 := VP.mono _ kv14 lx13
    have hW14 := hW13.mono kv14
    have Mb14 : Mu (q :: I :: W') lb (cs.map pairV) s14.heap := Mb13.go (kb_get k14 (hcb hLO)) kv14
    have Mr14 : Mu (q :: I :: W') lr (rs.map pairV) s14.heap := Mr13.go (kb_get k14 (hcr hLO)) kv14
    clear y13 r13 b13 w13 d13 h13 lx13 hW13 Mb13 Mr13 hah
    have hOq : ∀ b ∈ O, b ∈ q :: I :: W' := fun b hb => .tail _ (hOI b hb)
    have hqO : q ∉ O := fun z => hqW (hOI _ z)
    have hsd2 := hl2 h hh
    have hrl : (restOf tk cs h).length ≤ 62 := Nat.le_trans (uldGo_len _ _ _) (Nat.le_trans X2 G2')
    have hcut : (cut cs h).length ≤ 62 := Nat.le_trans (List.length_filter_le _ _) G2'
    have hline : 1000 ≤ sizeLine := by decide
    -- due
    refine st_localK F16 (P := LsV ((goStep tk sd i h cs).map pairV)) ?_ fun vd s15 F17 k15 hdu => ?_
    · unfold goStep
      rw [List.map_append, List.map_append]
      refine pe_bin (P1 := LsV ((cut cs h).map pairV ++ ((restOf tk cs h).map fun x => (hn i h, x)).map pairV)) (P2 := LsV (((sd h).map splitP).map pairV)) (pe_bin (P1 := LsV ((cut cs h).map pairV)) (P2 := LsV (((restOf tk cs h).map fun x => (hn i h, x)).map pairV)) ?_ ?_ (op_add_list ?_)) ?_ (op_add_list ?_)
      · refine pe_lc1 cs (Pit := Is (.ref q)) (Pf := pairV) (Po := pairV) (fun p => !(Txt.lower p.1 == abc h)) (pe_name (ld_local F16 (x := "ahead") rfl rfl)) (fun v s' k hv => by rw [show v = .ref q from hv]; exact src_mu R'.hd (Mq.mono (kps_kp k))) (by omega) ?_
        intro p hp W2 C s' k kv' ok hld
        have Y := (G1 p hp).facts.fine
        refine ⟨?_, fun _ => pe_name hld⟩
        refine pt_cmp (P1 := D (.str (Txt.lower p.1))) (P2 := D (.str (abc h))) ?_ (pe_sub (pe_name (ld_free F16 k kv' (x := "row") rfl (by show cm5 _ = _; exact q4) w14)) (pe_name (ld_free F16 k kv' (x := "k") rfl rfl y14)) (sub_list hrg (by omega))) (op_ne_str Y.low (abc_ok hh) R'.un)
        exact pe_meth (P1 := D (.str p.1)) (pe_sub (pe_name hld) (pe_nat (i := 0)) (sub_tuple rfl (by decide))) pes_nil PySem.F.plainAttrs_str PySem.F.slot_str_lower PySem.F.type_str_lower callee_str (fun v vs s _ h1 h2 => call_lower rfl Y.len v vs s h1 h2)
      · rw [List.map_map]
        refine pe_lc0 (restOf tk cs h) (Pit := FL .str (restOf tk cs h)) (Pf := fun x => D (.str x)) (pe_name (ld_local F16 (x := "box") rfl lx14)) (fun v s' _ h => src_list R'.hd h) (by omega) ?_
        intro x hx W2 C s' k kv' ok hld
        exact pe_tuple (pes_cons (pe_name (ld_free F16 k kv' (x := "hand") rfl rfl h14)) (pes_cons (pe_name hld) pes_nil)) (show 2 ≤ sizeLine by decide)
      · rw [List.length_map, List.length_map, List.length_map]; omega
      · rw [List.map_map]
        refine pe_lc0 (sd h) (Pit := FL .str (sd h)) (Pf := fun x => D (.str x)) (pe_sub (pe_name (ld_local F16 (x := "sends") (by show m5 _ = _; exact q3) d14)) (pe_sub (pe_name (ld_cell F16 (x := "row") rfl (by show cm5 _ = _; exact q4) w14)) (pe_name (ld_cell F16 (x := "k") rfl rfl y14)) (sub_list hrg (by omega))) (sub_dict (find_abc (fun k => FL .str (sd k)) hh))) (fun v s' _ h => src_list R'.hd h) (by omega) ?_
        intro x hx W2 C s' k kv' ok hld
        have P := posty (hsd h hh x hx)
        exact pe_tuple (pes_cons (pe_sub (pe_name hld) (pe_nat (i := 0)) (sub_str (by rw [P.two]; decide) (by decide))) (pes_cons (pe_sub (pe_name hld) (pe_nat (i := 1)) (sub_str (by rw [P.two]; decide) (by decide))) pes_nil)) (show 2 ≤ sizeLine by decide)
      · rw [List.length_append, List.length_map, List.length_map, List.length_map, List.length_map, List.length_map]; omega
    have kv15 : Kp (Vw (q :: I :: W') s14.heap) (Vw (q :: I :: W') s15.heap) := kb_vw (hc1 hLO hOq) k15
    have Mq15 : Mu (q :: I :: W') q (cs.map pairV) s15.heap := (Mq.go (fun o z => z) (Kp.refl _)).kb' k15 (nin1 fun z => hqO (by rw [z]; exact hLO)) (hc1 hLO hOq)
    -- ahead.append
    refine st_meth1 F17 (P := pairV ("d", "x")) (pe_name (ld_local F17 (x := "ahead") rfl rfl)) Mq15 (pe_tuple (pes_cons pe_str (pes_cons pe_str pes_nil)) (show 2 ≤ sizeLine by decide)) PySem.F.slot_list_append PySem.F.type_list_append fun vx s16 F18 k16 hvx => ?_
    refine call_append (.head _) (Mq15.mono (kps_kp k16)) hvx (by rw [List.length_map]; omega) fun s17 now => ?_
    have hqi : ∀ c ∈ [q], c ∈ q :: I :: W' := in1 (.head _)
    have hs3 : ∀ c ∈ I :: W', c ∈ q :: I :: W' := fun c hc => .tail _ hc
    have kv17' : Kp (Vw (q :: I :: W') s15.heap) (Vw (I :: W') s17.heap) := ((vw_mono (kps_kp k16)).trans (kb_vw hqi now.kb)).trans (vw_sub hs3)
    have kv17 := kv15.trans kv17'
    have F19 := (F18.kb now.kb (now.ok F18.ok) (hide1 (by rw [← hO]; exact hqO) (none_of F14.keep hq0))).hideLess (W' := I :: W') hs3 F5.own
    have r17 := VP.mono _ kv17 r14
    have b17 := VP.mono _ kv17 b14
    have h17 := VP.mono _ kv17 h14
    have lx17 := VP.mono _ kv17 lx14
    have du17 := VP.mono _ kv17' hdu
    have hW17 := hW14.mono kv17
    have Mb17 : Mu (I :: W') lb (cs.map pairV) s17.heap := (((Mb14.kb' k15 (hcb hLO) (hc1 hLO hOq)).mono (kps_kp k16)).kb' now.kb (nin1 hbq) hqi).sub hs3
    have Mr17 : Mu (I :: W') lr (rs.map pairV) s17.heap := (((Mr14.kb' k15 (hcr hLO) (hc1 hLO hOq)).mono (kps_kp k16)).kb' now.kb (nin1 hrq) hqi).sub hs3
    clear y14 r14 b14 w14 d14 h14 lx14 hW14 Mb14 Mr14 Mq Mq15 hdu kv15 kv17 kv17'
    have hlbI : lb ∈ I :: W' := .tail _ (hWs _ hlb)
    have hbase : (Vw (lb :: O) s5.heap).get? lb = none := hideAll_none _ (.head _)
    -- del
    refine st_del R' F19.ok hW17 (pe_name (ld_local F19 (x := "boxes") (by show m5 _ = _; exact q2) b17)) (pe_name (ld_cell F19 (x := "hand") rfl rfl h17)) hlbI Mb17 (nameable_hn hh i) (fun p hp => (G1 p hp).facts.fine) (by omega) fun s18 k18 ok18 Mb18 => ?_
    rw [N.2.1] at Mb18
    have F20 := F19.kb k18 ok18 (hide1 (by rw [← hO]; exact hbo) hbase)
    have kv18 : Kp (Vw (I :: W') s17.heap) (Vw (I :: W') s18.heap) := kb_vw (in1 hlbI) k18
    have r18 := VP.mono _ kv18 r17
    have b18 := VP.mono _ kv18 b17
    have h18 := VP.mono _ kv18 h17
    have lx18 := VP.mono _ kv18 lx17
    have du18 := VP.mono _ kv18 du17
    have hW18 := hW17.mono kv18
    have Mr18 : Mu (I :: W') lr (rs.map pairV) s18.heap := Mr17.kb' k18 (nin1 hne) (in1 hlbI)
    have hX2 : ∀ c ∈ lb :: O, c ∈ I :: W' := in2 hlbI hOI
    have hB0 : ∀ c ∈ lb :: O, (Vw (lb :: O) s5.heap).get? c = none := fun c hc => hideAll_none _ hc
    -- for letter
    refine st_for F20 (restOf tk cs h) (lb :: O) (Pit := FL .str (restOf tk cs h)) (Pf := fun x => D (.str x))
      (fun j m cm hp => (m "rules" = some vr ∧ m "boxes" = some vb ∧ m "sends" = some vs ∧ m "due" = some vd) ∧ (cm "row" = some vrow ∧ cm "hand" = some vh) ∧ Mu (I :: W') lb ((cut cs h ++ ((restOf tk cs h).take j).map fun x => (hn i h, x)).map pairV) hp)
      (fun i m cm h h' ⟨a, b, c⟩ k => ⟨a, b, c.mono k⟩) (fun i m cm h ⟨_, _, ⟨_, ⟨_, b⟩, _⟩⟩ c hc => (List.mem_cons.mp hc).elim (fun q => .inr ⟨_, q ▸ b⟩) fun q => .inl (hO ▸ q)) (fun b hb => .tail _ (hO ▸ hb)) hX2 hB0
      (pe_name (ld_local F20 (x := "box") rfl lx18)) (fun v s' _ h => src_listX R'.hd hX2 h) ⟨⟨by show m5 _ = _; exact q1, by show m5 _ = _; exact q2, by show m5 _ = _; exact q3, rfl⟩, ⟨by show cm5 _ = _; exact q4, rfl⟩, by rw [List.take_zero, List.map_nil, List.append_nil]; exact Mb18⟩ ?_ ?_
    · intro j y hy J s19 m19 cm19 v19 hJW hJ0 F21 ⟨⟨p1, p2, p3, p4⟩, ⟨p5, p6⟩, p7⟩ hv19 kv19 kx19 E19
      obtain ⟨hj, rfl⟩ := List.getElem?_eq_some_iff.mp hy
      have hJb : lb ≠ J := fun z => hJW (z ▸ hlbI)
      have hOJ : ∀ b ∈ O, b ∈ J :: I :: W' := fun b hb => .tail _ (hOI b hb)
      refine wpAny_assign_Name (store_local F21 (fun s20 F22 k20 => ?_) rfl)
      have kv20 : Kp (Vw (J :: I :: W') s19.heap) (Vw (J :: I :: W') s20.heap) := kb_vw (hc1 hLO hOJ) k20
      have M20 := (Mu.out p7).kb' k20 (hcb hLO) (hc1 hLO hOJ)
      have kq := kv19.trans kv20
      have Y := xy_facts (X1 _ (uldGo_sub _ _ _ _ (List.getElem_mem hj)))
      have YN := name6_facts _ N.1
      refine st_ifNone fun E' => ?_
      refine wp_hm (Ps := [D (.str (hn i h)), D (.str (restOf tk cs h)[j])]) F22.ok ((hW18.mono kq).mono (vw_kp _ _)) (pe_name (ld_local F22 (x := "boxes") (by show m19 _ = _; exact p2) (VP.mono _ kq b18))) (pes_cons (pe_name (ld_cell F22 (x := "hand") rfl p6 (VP.mono _ kq h18))) (pes_cons (pe_name (ld_local F22 (x := "letter") rfl (VP.mono _ kv20 hv19))) pes_nil)) rfl rfl rfl (fun _ _ => by rfl) fun x vs s21 k21 hx hvs => ?_
      obtain ⟨⟩ | ⟨h1, hvs⟩ := hvs
      obtain ⟨⟩ | ⟨h2, hvs⟩ := hvs
      cases hvs
      have hlen2 : (cut cs h ++ ((restOf tk cs h).take j).map fun x => (hn i h, x)).length ≤ 1000 := by rw [List.length_append, List.length_map, List.length_take]; omega
      refine add_ok R' ((hW18.mono kq).mono (vw_mono (kps_kp k21))) hx h1 h2 (.tail _ hlbI) (M20.mono (kps_kp k21)) (miss1 _ YN.2) (by have := YN.1.2.1; omega) (miss2 _ Y.2.2) (by have := Y.2.1; omega) hlen2 (F22.ok.mono (kps_kp k21)) _ _ fun v22 s22 k22 ok22 ⟨hn22, M22⟩ => ⟨hn22, ?_⟩
      refine wpAny_execs_nil ⟨.inl rfl, _, _, (F22.keeps k21).kb k22 ok22 (hide1 (by rw [← hO]; exact hbo) (hideAll_none _ (.head _))), ⟨by show m19 _ = _; exact p1, by show m19 _ = _; exact p2, by show m19 _ = _; exact p3, by show m19 _ = _; exact p4⟩, ⟨p5, p6⟩, ?_⟩
      have := M22.hide hJb
      rw [take_more hj]
      exact this
    · rintro m19 cm19 s19 F21 ⟨⟨p1, p2, p3, p4⟩, ⟨p5, p6⟩, p7⟩ kx19
      rw [List.take_length] at p7
      have kv19 : Kp (Vw (I :: W') s18.heap) (Vw (I :: W') s19.heap) := kb_vw hX2 kx19
      have r19 := VP.mono _ kv19 r18
      have b19 := VP.mono _ kv19 b18
      have h19 := VP.mono _ kv19 h18
      have du19 := VP.mono _ kv19 du18
      have hW19 := hW18.mono kv19
      have Mr19 : Mu (I :: W') lr (rs.map pairV) s19.heap := Mr18.kb' kx19 (fun z => (List.mem_cons.mp z).elim hne hro) hX2
      clear r17 b17 h17 lx17 du17 hW17 Mb17 Mr17 r18 b18 h18 lx18 du18 hW18 Mb18 Mr18
      have pe_hh : ∀ {pos1 : Pos}, PE prog w (I :: W') A' _ s19 (.Name "hand" pos1) (D (.str (hn i h))) := fun {_} => pe_name (ld_cell F21 (x := "hand") rfl p6 h19)
      have hl1 : (hn i h).length = 1 := N.2.2.2.2.1
      have hlc : (hn i h ++ "-").length = 2 := by rw [PySem.Str.length_append, hl1]; rfl
      refine st_for F21 (sd h) (lb :: O) (Pit := LsF s19.heap ((sd h).map fun x => D (.str x))) (Pf := fun x => D (.str x))
        (fun j m cm hp => (m "rules" = some vr ∧ m "boxes" = some vb ∧ m "sends" = some vs ∧ m "due" = some vd) ∧ (cm "row" = some vrow ∧ cm "hand" = some vh) ∧ Mu (I :: W') lb ((cut cs h ++ ((restOf tk cs h).map fun x => (hn i h, x)) ++ ((sd h).take j).map splitP).map pairV) hp)
        (fun i m cm h h' ⟨a, b, c⟩ k => ⟨a, b, c.mono k⟩) (fun i m cm h ⟨_, _, ⟨_, ⟨_, b⟩, _⟩⟩ c hc => (List.mem_cons.mp hc).elim (fun q => .inr ⟨_, q ▸ b⟩) fun q => .inl (hO ▸ q)) (fun b hb => .tail _ (hO ▸ hb)) hX2 hB0
        (pe_getL (nm := hn i h ++ "-" ++ hn i h) R' hW19 (pe_name (ld_local F21 (x := "rules") p1 r19)) (pe_bin (pe_bin pe_hh pe_str (op_add_str (by rw [hl1]; decide))) pe_hh (op_add_str (by rw [hlc, hl1]; decide))) Mr19 (nameable_send hh i) RO.fine RO.len N.2.2.2.1 (RO.sd h hh)) (fun v s' _ h => src_listX R'.hd hX2 (LsF.toLs h)) ⟨⟨p1, p2, p3, p4⟩, ⟨p5, p6⟩, by rw [List.take_zero, List.map_nil, List.append_nil]; exact p7⟩ ?_ ?_
      · intro j y hy J s20 m20 cm20 v20 hJW hJ0 F22 ⟨⟨o1, o2, o3, o4⟩, ⟨o5, o6⟩, o7⟩ hv20 kv20 kx20 E20
        obtain ⟨hj, rfl⟩ := List.getElem?_eq_some_iff.mp hy
        have hJb : lb ≠ J := fun z => hJW (z ▸ hlbI)
        have hOJ : ∀ b ∈ O, b ∈ J :: I :: W' := fun b hb => .tail _ (hOI b hb)
        refine wpAny_assign_Name (store_local F22 (fun s21 F23 k21 => ?_) rfl)
        have kv21 : Kp (Vw (J :: I :: W') s20.heap) (Vw (J :: I :: W') s21.heap) := kb_vw (hc1 hLO hOJ) k21
        have M21 := (Mu.out o7).kb' k21 (hcb hLO) (hc1 hLO hOJ)
        have kq := kv20.trans kv21
        have P := posty (hsd h hh _ (List.getElem_mem hj))
        have Y := (split_ok _ (hsd h hh _ (List.getElem_mem hj))).facts.lay
        have x21 := VP.mono _ kv21 hv20
        refine wpAny_execs_cons (wpAny_Expr_any ?_ rfl (by rfl))
        refine wp_hm (Ps := [D (.str (splitP (sd h)[j]).1), D (.str (splitP (sd h)[j]).2)]) F23.ok ((hW19.mono kq).mono (vw_kp _ _)) (pe_name (ld_local F23 (x := "boxes") (by show m20 _ = _; exact o2) (VP.mono _ kq b19))) (pes_cons (pe_sub (pe_name (ld_local F23 (x := "post") rfl x21)) (pe_nat (i := 0)) (sub_str (by rw [P.two]; decide) (by decide))) (pes_cons (pe_sub (pe_name (ld_local F23 (x := "post") rfl x21)) (pe_nat (i := 1)) (sub_str (by rw [P.two]; decide) (by decide))) pes_nil)) rfl rfl rfl (fun _ _ => by rfl) fun x vs s22 k22 hx hvs => ?_
        obtain ⟨⟩ | ⟨h1, hvs⟩ := hvs
        obtain ⟨⟩ | ⟨h2, hvs⟩ := hvs
        cases hvs
        have hlen2 : (cut cs h ++ ((restOf tk cs h).map fun x => (hn i h, x)) ++ ((sd h).take j).map splitP).length ≤ 1000 := by rw [List.length_append, List.length_append, List.length_map, List.length_map, List.length_take]; omega
        refine add_ok R' ((hW19.mono kq).mono (vw_mono (kps_kp k22))) hx h1 h2 (.tail _ hlbI) (M21.mono (kps_kp k22)) Y.m1 Y.n1 Y.m2 Y.n2 hlen2 (F23.ok.mono (kps_kp k22)) _ _ fun v23 s23 k23 ok23 ⟨hn23, M23⟩ => ?_
        refine wpAny_execs_nil ⟨.inl rfl, _, _, (F23.keeps k22).kb k23 ok23 (hide1 (by rw [← hO]; exact hbo) (hideAll_none _ (.head _))), ⟨by show m20 _ = _; exact o1, by show m20 _ = _; exact o2, by show m20 _ = _; exact o3, by show m20 _ = _; exact o4⟩, ⟨o5, o6⟩, ?_⟩
        have := M23.hide hJb
        rw [take_more hj]
        exact this
      · rintro m20 cm20 s20 F22 ⟨⟨o1, o2, o3, o4⟩, ⟨o5, o6⟩, o7⟩ kx20
        rw [List.take_length] at o7
        have kv20 : Kp (Vw (I :: W') s19.heap) (Vw (I :: W') s20.heap) := kb_vw hX2 kx20
        have b20 := VP.mono _ kv20 b19
        have du20 := VP.mono _ kv20 du19
        have hW20 := hW19.mono kv20
        have o7' : Mu (I :: W') lb ((goStep tk sd i h cs).map pairV) s20.heap := o7
        have hgl : (goStep tk sd i h cs).length ≤ 64 := by have := goStep_len (tk := tk) (k := i) (bs := cs) hsd2; omega
        have hgk := goStep_ok (tk := tk) (k := i) hh (hsd h hh) G1
        refine st_if F22 (b := false) (pt_cmp (P1 := LsV ((goStep tk sd i h cs).map pairV)) (P2 := LsV ((goStep tk sd i h cs).map pairV)) ((pe_items (R'.less (by decide)) hW20 (pe_name (ld_local F22 (x := "boxes") o2 b20)) o7' (by omega)).sub fun v h hv => LsF.toLs hv) (pe_name (ld_local F22 (x := "due") o4 du20)) (fun a b s ha hb => op_ne_pairs_self hgk R'.un a b s ha hb)) (fun hb => nomatch hb) (fun _ s21 F23 k21 => wpAny_execs_nil (wpAny_execs_nil ?_))
        exact ⟨.inl rfl, _, _, F23, o1, o2, o3, o5, by rw [hgs]; exact (o7'.mono (kps_kp k21)).hide hIb⟩
  · rintro m5 cm5 s5 F5 ⟨q1, q2, q3, q4, q5⟩ kx
    rw [List.length_range] at q5
    exact st_return F5 (P := D (.bool true)) pe_bool fun v s6 F6 k6 hv6 => ⟨F6.done, fun b hb => F6.ok b (hWs _ hb), d_bool hv6, (q5.mono (kps_kp k6)).sub hWs⟩
end
end Mine
set_option maxRecDepth 100000
set_option maxHeartbeats 4000000
set_option linter.unusedVariables false
namespace Mine
open PySem PySem.Spec PySem.Calls PyProof.Rows PySem.W PySem.MeetsSeq
section
variable {prog : Program} {w : World} {W : List Addr} {A : Around} {env : Env} {s₀ s : Shared} {mg mb : Str → Option Value} {m cm : Str → Option Value} {rest : List Stmt} {P P1 P2 : VP} {p p1 pos cp px : Pos} {f : Str → PyData} {e e1 e2 : Expr} {x : Str} {α : Type}
/-- if a op b: .., where it isn't so; a may change what it will -/
theorem st_ifCmp {op : CmpOp} {body : List Stmt} {Q : Flow → Shared → Prop} {E : Value → Shared → Prop}
    (h : ∀ E', wpAny (model prog w) A (eval e1 env) (fun a s1 => wpAny (model prog w) A (eval e2 env) (fun b s2 => wpAny (model prog w) A (compareOp op a b) (fun v s3 => v = .bool false ∧ wpAny (model prog w) A (execs rest env) Q E s3) E' s2) E' s1) E' s)
    (hm : behindInMarks op e2 = false := by with_unfolding_all rfl) : wpAny (model prog w) A (execs (.If (.Compare e1 [op] [e2] cp) body [] pos :: rest) env) Q E s := by
  refine wpAny_execs_cons (wpAny_If (wpAny_isTrue_Compare1 (wpAny_mono (h _) (fun a s1 h1 => ?_) fun _ _ e => e) hm))
  refine wpAny_mono h1 (fun b s2 h2 => wpAny_mono h2 (fun v s3 ⟨hv, h3⟩ => ?_) fun _ _ e => e) fun _ _ e => e
  subst hv
  refine wpAny_truthy_bool ?_
  simp only [Bool.false_eq_true, if_false]
  exact wpAny_execs_nil h3
/-- M is changed, and what is laid up in the frames' objects -/
theorem Fm.upM (F : Fm env s₀ W m cm s) {M fs : List Addr} {s' : Shared} (k : KB (M ++ fs) s s') (fu : FU fs s.heap s'.heap) (ok : WOK W s'.heap) (hM : ∀ b ∈ M, b ∉ Mine.own env ∧ s₀.heap.get? b = none) (h0 : ∀ b ∈ fs, s₀.heap.get? b = none) : Fm env s₀ W m cm s' := by
  obtain ⟨h, tk, e, kk⟩ := k
  obtain ⟨h₁, tk₁, e₁⟩ := F.same
  have key : ∀ b o, b ∈ Mine.own env → s.heap.get? b = some o → ∃ sl, s'.heap.get? b = some { o with slots := sl } := fun b o hb q => by
    by_cases hf : b ∈ fs
    · exact fu b hf o q
    · exact ⟨o.slots, by rw [e]; exact kk _ _ (vw_to q fun z => (List.mem_append.mp z).elim (fun z => (hM _ z).1 hb) hf)⟩
  refine ⟨⟨h, tk, by rw [e, e₁]⟩, ?_, fun b o q => ?_, F.off, fun n c hc => ?_, F.apart, F.above, ok, F.own, F.fn⟩
  · obtain ⟨o, es, n, q, hd, r⟩ := F.ns
    obtain ⟨sl, q'⟩ := key _ o (mem_own_loc _) q
    exact ⟨{ o with slots := sl }, es, n, q', hd, r⟩
  · have := F.keep b o q
    rw [e]
    exact kk _ _ (vw_to this fun z => (List.mem_append.mp z).elim (fun z => by rw [(hM _ z).2] at q; cases q) fun z => by rw [h0 _ z] at q; cases q)
  · obtain ⟨o, q, hd⟩ := F.cell n c hc
    obtain ⟨sl, q'⟩ := key _ o (mem_own_cell hc) q
    exact ⟨_, q', hd⟩
/-- _law_alone: a list of its own -/
theorem aloneF_ok {v : Value} {xs : List Str} (R : Room A 1) (hW : Wd (KK w) mg mb s.heap) (hv : (SL xs).p v (Vw W s.heap)) (hsz : xs.length ≤ sizeLine) :
    Ev prog w W A (call (.ref 220) [v]) (LsF s.heap (xs.map fun x => LsV [D (.str x)])) s := by
  refine ev_call (K := KK w) R hW rfl rfl rfl rfl rfl rfl rfl rfl rfl rfl ?_
  intro L env A' W' s₁ he hA' R' hL hW' F kv
  clear hA' hW' R
  subst he
  refine st_return F (P := LsF s.heap (xs.map fun x => LsV [D (.str x)])) ?_ fun v s' F' k hp => ⟨F'.done, hp⟩
  refine (pe_lc0F xs (Pit := SL xs) (Pf := fun x => D (.str x)) (Po := fun x => LsV [D (.str x)]) (pe_name (ld_local F rfl (VP.mono _ kv hv))) (fun v s _ h => src_list R'.hd h) hsz ?_).sub fun v h hv => LsF.less hv F.keep
  intro x hx W2 C s k kv2 hok hld
  exact pe_list (pes_cons (pe_name hld) pes_nil) (by show 1 ≤ sizeLine; decide)
theorem LsF.sub {h₀ : Heap} {β : Type} {g g' : β → VP} (hs : ∀ x v h, (g x).p v h → (g' x).p v h) : ∀ {xs : List β} {v : Value} {h : Heap}, (LsF h₀ (xs.map g)).p v h → (LsF h₀ (xs.map g')).p v h := by
  rintro xs v h ⟨a, k, vs, e, l, q, r⟩
  refine ⟨a, k, vs, e, l, q, ?_⟩
  generalize vs.toList = us at r
  clear q
  induction xs generalizing us with
  | nil => cases r; exact .nil
  | cons x xs ih =>
    obtain ⟨⟩ | ⟨r1, r⟩ := r
    exact .cons (hs _ _ _ r1) (ih _ r)
abbrev one1 : Str → PyData := fun x => .list [.str x]
theorem LsF.one {h₀ : Heap} {xs : List Str} {v : Value} {h : Heap} (x : (LsF h₀ (xs.map fun x => LsV [D (.str x)])).p v h) : (LsF h₀ (xs.map fun x => D (one1 x))).p v h :=
  LsF.sub (g := fun x => LsV [D (.str x)]) (g' := fun x => D (one1 x)) (fun x v h hv => LsV.toD (ds := [.str x]) hv) x
theorem uld0_core {a b : Addr} {xs ys : List Str} {Q E : Value → Shared → Prop} (T : Tells f) (R : Room A 1) (hWv : Wd (KK w) mg mb (Vw (b :: a :: W) s.heap)) (hab : a ≠ b) (ha : a ∉ W) (hb : b ∉ W) (Ma : Mu (b :: a :: W) a (xs.map fun x => D (f x)) s.heap) (Mb : Mu (b :: a :: W) b (ys.map fun x => D (f x)) s.heap) (hw : WOK W s.heap)
    (hm : (uldGo xs.reverse [] ys).1 = []) (hs1 : xs.length ≤ 1000) (hs2 : ys.length ≤ 1000) (hx : ∀ x ∈ xs, PyData.strOk x = true) (hy : ∀ x ∈ ys, PyData.strOk x = true)
    (hQ : ∀ v s', KB [a, b] s s' → (TpV [FL f [], FL f (uldGo xs.reverse [] ys).2]).p v (Vw W s'.heap) → Q v s') : wpAny (model prog w) A (call (.ref 45) [.ref a, .ref b]) Q E s := by
  have okW : WOK (b :: a :: W) s.heap := by
    obtain ⟨us, ⟨n, g⟩, r⟩ := Ma
    obtain ⟨us', ⟨n', g'⟩, r'⟩ := Mb
    exact (hw.cons g).cons g'
  refine uld_ok (prog := prog) (w := w) T (fs := []) R hWv (fun b hb => nomatch hb) (.tail _ (.head _)) (.head _) hab (fun z => nomatch z) (fun z => nomatch z) Ma Mb (by rw [sizeLine_eq]; omega) (by rw [sizeLine_eq]; omega) hx hy (fun z => absurd hm z) okW _ _ fun vt s4 k4 ok4 ⟨hto, Me, Mx, _⟩ => ?_
  rw [hm] at hto
  have hs : ∀ c ∈ W, c ∈ b :: a :: W := fun c hc => .tail _ (.tail _ hc)
  refine hQ _ _ k4 (TpV.two (VP.mono _ (vw_sub hs) hto) (fun u hu => LsF.toLs hu) fun u hu => ?_)
  rw [show u = .ref b from hu]
  exact Mx.see hs hb
theorem kb_keep {M : List Addr} {s s' : Shared} (k : KB M s s') (h : ∀ b ∈ M, s₀.heap.get? b = none) (k0 : Keeps s₀ s) : Keeps s₀ s' := kb_new k0 h k
/-- unorderable_list_difference of two lists of their own, where nothing is missing -/
theorem pe_uld0 {xs ys : List Str} (R : Room A 1) (hWv : Wd (KK w) mg mb (Vw W s₀.heap)) (h1 : ∀ s1, Keeps s₀ s1 → PE prog w W A env s1 e1 (LsF s1.heap (xs.map fun x => D (.str x)))) (h2 : ∀ s1, Keeps s₀ s1 → PE prog w W A env s1 e2 (LsF s1.heap (ys.map fun x => D (.str x))))
    (hm : (uldGo xs.reverse [] ys).1 = []) (hs1 : xs.length ≤ 1000) (hs2 : ys.length ≤ 1000) (hx : ∀ x ∈ xs, PyData.strOk x = true) (hy : ∀ x ∈ ys, PyData.strOk x = true)
    (hn : PE prog w W A env s₀ (.Name "unorderable_list_difference" p) (Is (.ref 45))) (he1 : starEach [e1, e2] env = (false, eval e1 env) :: starEach [e2] env := by rfl) (he2 : starEach [e2] env = [(false, eval e2 env)] := by rfl) :
    PE prog w W A env s₀ (.Call (.Name "unorderable_list_difference" p) [e1, e2] [] pos) (TpV [FL .str [], FL .str (uldGo xs.reverse [] ys).2]) := by
  intro s k hw E Q hQ
  refine wpAny_Call_NameR (hn s k hw E _ fun v s1 k1 hv => ?_)
  rw [show v = .ref 45 from hv]
  have ok1 := hw.mono (kps_kp k1)
  refine callWith_K (K := KK w) (hWv.mono (vw_kp _ _)).inK rfl ?_ he1 (by rw [he2]; rfl)
  rw [he1, he2]
  refine spliced_cons (h1 s1 (kps_trans k k1) s1 (kps_refl _) ok1 E _ fun v2 s2 k2 hv2 => ?_)
  have ok2 := ok1.mono (kps_kp k2)
  have k02 := kps_trans k (kps_trans k1 k2)
  refine spliced_cons (h2 s2 k02 s2 (kps_refl _) ok2 E _ fun v3 s3 k3 hv3 => ?_)
  have ok3 := ok2.mono (kps_kp k3)
  have k03 := kps_trans k02 k3
  obtain ⟨a, rfl, ha0, haW, Ma⟩ := LsF.mu hv2
  obtain ⟨b, rfl, hb0, hbW, Mb⟩ := LsF.mu hv3
  have ha3 : s.heap.get? a = none := none_of (kps_kp k1) ha0
  have hb3 : s.heap.get? b = none := none_of (kps_kp (kps_trans k1 k2)) hb0
  have hab : a ≠ b := fun z => by obtain ⟨us, ⟨n, g⟩, r⟩ := Ma; rw [z, hb0] at g; cases g
  have kq : Kp (Vw (a :: W) s2.heap) (Vw (b :: a :: W) s3.heap) := kv_hide (vw_mono (kps_kp k3)) hb0
  have Ma3 : Mu (b :: a :: W) a (xs.map fun x => D (.str x)) s3.heap := Ma.go (fun o => kps_kp k3 _ o) kq
  have Mb3 : Mu (b :: a :: W) b (ys.map fun x => D (.str x)) s3.heap := by
    obtain ⟨us, g, r⟩ := Mb
    refine ⟨us, g, ?_⟩
    generalize us.toList = ul at r
    clear g hv3 hy hs2 hm hQ h2
    induction ys generalizing ul with
    | nil => cases r; exact .nil
    | cons y ys ih =>
      obtain ⟨⟩ | ⟨r1, r⟩ := r
      obtain ⟨t, rfl⟩ := d_str r1
      exact .cons (d_ofStr _ _ _) (ih _ r)
  have hWd : Wd (KK w) mg mb (Vw (b :: a :: W) s3.heap) := (hWv.mono (kv_hide (vw_mono (kps_kp k02)) (none_of (kps_kp k) ha3))).mono kq
  refine wpAny_items_nil (env := env) (pos := pos) ⟨(hWd.mono (vw_kp _ _)).inK, ?_⟩
  refine uld0_core tells_str R hWd hab haW hbW Ma3 Mb3 ok3 hm hs1 hs2 hx hy fun v4 s4 k4 hv4 => hQ _ _ (kb_new (kps_trans k1 (kps_trans k2 k3)) (fun c hc => ?_) k4) hv4
  rcases List.mem_cons.mp hc with rfl | hc
  · exact ha3
  · rw [List.mem_singleton.mp hc]; exact hb3
end
end Mine
set_option maxRecDepth 100000
set_option maxHeartbeats 4000000
set_option linter.unusedVariables false
namespace Mine
open PySem PySem.Spec PySem.Calls PyProof.Rows PySem.W PySem.MeetsSeq
/-- lists stand there -/
def Lists (X : List Addr) (h : Heap) : Prop := ∀ b ∈ X, ∃ o, h.get? b = some o ∧ o.cls = .type "list"
theorem pair_hide {X : List Addr} {h : Heap} (hX : Lists X h) {p : Str × Str} {v : Value} (x : (pairV p).p v h) : (pairV p).p v (Vw X h) := by
  obtain ⟨a, n, us, e, g, r⟩ := x
  refine ⟨a, n, us, e, vw_to g fun m => ?_, ?_⟩
  · obtain ⟨o, g', c⟩ := hX a m
    rw [g] at g'; cases g'
    exact absurd c (by intro z; injection z with z; revert z; decide)
  · generalize us.toList = ul at r
    obtain ⟨⟩ | ⟨r1, r⟩ := r
    obtain ⟨⟩ | ⟨r2, r⟩ := r
    cases r
    obtain ⟨t, rfl⟩ := d_str r1
    obtain ⟨u, rfl⟩ := d_str r2
    exact .cons (d_ofStr _ _ _) (.cons (d_ofStr _ _ _) .nil)
theorem pairs_hide {X : List Addr} {h : Heap} (hX : Lists X h) : ∀ {ps : List (Str × Str)} {vs : List Value}, VAll h (ps.map pairV) vs → VAll (Vw X h) (ps.map pairV) vs
  | [], _, .nil => .nil
  | _ :: _, _, .cons a b => .cons (pair_hide hX a) (pairs_hide hX b)
theorem hdi_hide {X : List Addr} {h : Heap} {l : Addr} {v : Value} (hX : Lists X h) (x : (HdI l).p v h) : (HdI l).p v (Vw X h) := by
  obtain ⟨x, dx, hs, tk, n, e, g1, g2⟩ := x
  refine ⟨x, dx, hs, tk, n, e, vw_to g1 fun m => ?_, vw_to g2 fun m => ?_⟩
  · obtain ⟨o, g', c⟩ := hX x m
    rw [g1] at g'; cases g'
    exact absurd c (by intro z; injection z)
  · obtain ⟨o, g', c⟩ := hX dx m
    rw [g2] at g'; cases g'
    exact absurd c (by intro z; injection z with z; revert z; decide)
theorem vw_vw {X W : List Addr} {h : Heap} : Kp (Vw X (Vw W h)) (Vw (X ++ W) h) := fun b o e => by
  obtain ⟨e1, e2⟩ := vw_of e
  obtain ⟨e3, e4⟩ := vw_of e1
  exact vw_to e3 fun m => (List.mem_append.mp m).elim e2 e4
/-- a Headers whose list is at l, of these pairs -/
def HdL (h₀ : Heap) (ps : List (Str × Str)) (l : Addr) : VP := ⟨fun v h => (HdI l).p v h ∧ (LsV (ps.map pairV)).p (.ref l) h ∧ h₀.get? l = none,
  fun k ⟨a, b, c⟩ => ⟨VP.mono _ k a, VP.mono _ k b, c⟩⟩
def HdLs (h₀ : Heap) (ps : List (Str × Str)) (n : Nat) : VP := ⟨fun v h => ∃ ls : List Addr, ls.length = n ∧ ls.Nodup ∧ (∀ l ∈ ls, v ≠ .ref l) ∧ (LsV (ls.map (HdL h₀ ps))).p v h,
  fun k ⟨ls, a, b, d, c⟩ => ⟨ls, a, b, d, VP.mono _ k c⟩⟩
section
variable {prog : Program} {w : World} {W : List Addr} {A : Around} {env : Env} {s₀ s : Shared} {mg mb : Str → Option Value} {m cm : Str → Option Value} {rest : List Stmt} {P P1 P2 : VP} {p p1 pos cp px : Pos} {f : Str → PyData} {e e1 e2 : Expr} {x : Str} {α : Type}
/-- how one is made -/
def NewHd (prog : Program) (w : World) (W : List Addr) (A : Around) (env : Env) (e : Expr) (ps : List (Str × Str)) (s : Shared) : Prop :=
  ∀ (E Q : Value → Shared → Prop), (∀ v s' l, Keeps s s' → WOK W s'.heap → s.heap.get? l = none → l ∉ W → (HdI l).p v (Vw (l :: W) s'.heap) → Mu (l :: W) l (ps.map pairV) s'.heap → Q v s') → wpAny (model prog w) A (eval e env) Q E s
theorem pe_hds {elt iter : Expr} {scope : Scope} {cl : List (Str × Addr)} {Pit : VP} {Pf : α → VP} (xs : List α) (ps : List (Str × Str))
    (hiter : PE prog w W A env s₀ iter Pit) (hsrc : ∀ v s, Keeps s₀ s → Pit.p v (Vw W s.heap) → Srcs prog w W A v s (xs.map Pf)) (hn : xs.length ≤ sizeLine)
    (T : ∀ y ∈ xs, ∀ (W' : List Addr) (C : Addr) (s : Shared), Keeps s₀ s → Kp (Vw W s₀.heap) (Vw W' s.heap) → WOK W' s.heap → NewHd prog w W' A (compEnvC scope cl C env) elt ps s)
    (hclos : closureFor scope env = pure cl := by rfl) (hcell : ∀ y ∈ scope.names, y.2 ≠ .cell := by decide) (hkind : scope.kind = .function := by rfl)
    (hnames : ∀ y ∈ scope.names, y.2 = .local → scope.names.lookup y.1 = some .local := by decide) (hx : scope.names.lookup x = some .local := by rfl)
    (hs : ∀ x, foldedSetIterable iter env x = pure x := by intro _; rfl) :
    PE prog w W A env s₀ (.ListComp elt [⟨.Name x px, iter, [], 0⟩] scope pos) (HdLs s₀.heap ps xs.length) := by
  intro s k hw E Q hQ
  rw [eval_ListComp]
  refine wpAny_comprehension_free (use := none) rfl hs hclos hkind hnames (hiter s k hw E _ fun xv s₁ k₁ hv => hsrc xv s₁ (kps_trans k k₁) hv (hw.mono (kps_kp k₁)) E _ fun o fp St Wk hst hfp _ _ => ?_)
  rw [List.length_map] at Wk
  have hxk : ∀ C, (compEnvC scope cl C env).kindOf x = some .local := fun C => lookup_relabel_local hx
  have hp : ∀ C, ((compEnvC scope cl C env).scope.kind == .class || ((compEnvC scope cl C env).scope.kind == .module && (compEnvC scope cl C env).locals != (compEnvC scope cl C env).globals)) = false := fun C => by simp [compEnvC, relabel, hkind]
  have hfk : ∀ C, (compEnvC scope cl C env).scope.kind = .function := fun C => by simp [compEnvC, relabel, hkind]
  refine comp_one (RR := fun acc C => compPost (model prog w) A E none Q acc C) (oA := { cls := .type "list", data := .seq ([] : List Value).toArray }) (p := iter.pos)
    (fin := fun I D C => (do let _ ← call (.builtin "list.append") [.ref D, ← eval elt (compEnvC scope cl C env)]) >>= fun _ => again (.compLoop (.ListComp elt [⟨.Name x px, iter, [], 0⟩] scope pos) 0 (.ref I) (.ref D) (compEnvC scope cl C env)))
    (cv := fun C => compEnvC scope cl C env) (tb := fun _ => true) (ifs := []) (b0 := id) (Bd := fun C v h => ∃ m, h.Ns C m ∧ m x = some v)
    (Ac := fun D W' i h => ∃ ls : List Addr, ls.length = i ∧ ls.Nodup ∧ (∀ l ∈ ls, D ≠ l) ∧ ∃ ys, h.PlainList D ys ∧ VAll (Vw W' h) (ls.map (HdL s₀.heap ps)) ys.toList)
    Wk hst hfp (hw.mono (kps_kp k₁)) (fun s E Q h => wpAny_newObj_type h) rfl (newEnv_local hcell hkind) (fun _ => rfl) (fun C => tg_local (cenv := compEnvC scope cl C env) (hfk C) (hxk C)) (fun C => Nat.le_refl _) (fun C h _ q => q) (fun _ _ _ => rfl) (fun _ _ _ => rfl) (fun _ _ _ => rfl) (fun _ _ _ => rfl) (fun I D C R s h1 h2 => codeAny_compStart_list h1 (h2 _))
    ⟨fun e => ⟨[], rfl, List.nodup_nil, (fun l hl => by cases hl), _, ⟨_, e⟩, .nil⟩, fun ⟨ls, a, b, d, ys, ⟨q, e⟩, r⟩ k kv => ⟨ls, a, b, d, ys, ⟨q, k _ e⟩, r.mono kv⟩, fun ⟨ls, a, b, d, ys, ⟨q, e⟩, r⟩ => ⟨_, e⟩, fun hb => nomatch hb⟩ ?_ ?_
  · intro i hi D W' C s2 v k2 kv2 ok2 hD hDB hD0 hC0 _ hld hpi
    have k02 := kps_trans (kps_trans k k₁) k2
    have kv02 := (vw_mono (kps_kp (kps_trans k k₁))).trans kv2
    refine ⟨fun E Q hQ => wpAny_pure (hQ s2 (kps_refl s2)), fun hb s3 k3 ⟨ls, hln, hnd, hDl, ys, hpl, r⟩ ⟨mC, hnC⟩ ⟨mB, hnB, hmB⟩ hCW hDC E Q hQ => ?_⟩
    refine wpAny_bind (wpAny_bind (T xs[i] (List.getElem_mem hi) W' C s3 (kps_trans k02 k3) (kv02.trans (vw_mono (kps_kp k3))) (ok2.mono (kps_kp k3)) _ _ fun u s4 l k4 ok4 hl0 hlW hI hM => ?_))
    have hlD : D ≠ l := fun z => hlW (z ▸ hD)
    have r4 : VAll (Vw W' s4.heap) (ls.map (HdL s₀.heap ps)) ys.toList := r.mono (vw_mono (kps_kp k4))
    have hnew : l ∉ ls := fun hm => by
      obtain ⟨j, hj⟩ := List.getElem?_of_mem hm
      obtain ⟨v', _, _, ⟨a, n, us, e, g, _⟩, _⟩ := r.get (P := HdL s₀.heap ps l) j (by rw [List.getElem?_map, hj]; rfl)
      cases e
      rw [(vw_of g).1] at hl0; cases hl0
    have hd : (HdL s₀.heap ps l).p u (Vw W' s4.heap) := ⟨VP.mono _ (vw_sub fun b hb => .tail _ hb) hI, hM.see (fun b hb => .tail _ hb) hlW, none_of (kps_kp (kps_trans k02 k3)) hl0⟩
    have mu : Mu W' D (ls.map (HdL s₀.heap ps)) s4.heap := ⟨ys, hpl.at fun o => kps_kp k4 _ o, r4⟩
    refine wpAny_bind (call_append hD mu hd (by rw [List.length_map]; omega) fun s5 now => wpAny_pure (wpAny_pure (hQ s5 (kb_mono (by simp) (kb_trans (kb_of k4) now.kb)) ⟨mC, (hnC.keeps (kps_kp k4)).at' (kb_get now.kb (by simpa using Ne.symm hDC))⟩ ⟨mB, (hnB.keeps (kps_kp k4)).at' (kb_get now.kb (by simpa using Ne.symm hDC))⟩ ?_)))
    obtain ⟨zs, hz, rz⟩ := now.mu
    exact ⟨ls ++ [l], by rw [List.length_append, hln]; rfl, List.nodup_append.mpr ⟨hnd, by simp, fun a ha b hb => by rw [List.mem_singleton.mp hb]; exact fun z => hnew (z ▸ ha)⟩, (fun a ha => (List.mem_append.mp ha).elim (hDl a) fun ha => by rw [List.mem_singleton.mp ha]; exact hlD), zs, hz, by rw [List.map_append]; exact rz⟩
  · intro Dd C h' tk hD hC hDC ⟨m', hnC⟩ ⟨ls, hln, hnd, hDl, ys, hpl, hV⟩ hk hCb hDb
    refine ⟨m', hnC, fun h'' hs'' => ?_⟩
    have k2 : Kp s₁.heap h'' := fun b o e => hs''.extBut b o (by rintro rfl; rw [get_size_none _ hC] at e; cases e) (hk b o e)
    have hw' : WOK W s₁.heap := hw.mono (kps_kp k₁)
    refine hQ _ _ (kps_trans k₁ (kps_mk k2)) ⟨ls, hln, hnd, (fun l hl z => hDl l hl (Value.ref.inj z)), Dd, _, ys, rfl, vw_to (hpl.extBut hs''.extBut hDC).choose_spec (hw'.fresh hD), hV.mono fun b o e => ?_⟩
    obtain ⟨e1, e2⟩ := vw_of e
    exact vw_to (hs''.extBut b o (fun q => e2 (by simp [q])) e1) fun q => e2 (by simp [q])
end
end Mine
set_option maxRecDepth 100000
set_option maxHeartbeats 4000000
set_option linter.unusedVariables false
namespace Mine
open PySem PySem.Spec PySem.Calls PyProof.Rows PySem.W PySem.MeetsSeq
/-- the law's own statements and names -/
noncomputable def lawB (w : World) : { b : List Stmt × Scope // ∃ o fd, (KK w).lookup 242 = some o ∧ o.data = .func fd ∧ fd.body = .stmts b.1 ∧ fd.scope = b.2 } := ⟨(_, _), _, _, rfl, rfl, rfl, rfl⟩
noncomputable abbrev lawEnv (w : World) (L fa : Addr) (cd : Value) : Env := envOfC "law" (lawB w).1.2 L fa cd
def sentP (sd : Nat → List Str) : List (Str × Str) := (List.range 3).flatMap fun h => (sd h).map fun x => (abc h ++ "-" ++ aBC h, x)
section
variable {prog : Program} {w : World} {W : List Addr} {A : Around} {s₀ s : Shared} {mg mb : Str → Option Value} {m cm : Str → Option Value} {L fa lr l0 l1 : Addr} {cd vr vs ve : Value} {tk sd : Nat → List Str} {rs b0 b1 : List (Str × Str)}
theorem sent_fine {sd : Nat → List Str} (hsd : ∀ h, h < 3 → ∀ x ∈ sd h, x ∈ posts12) : ∀ p ∈ sentP sd, Fine p := by
  intro p hp
  obtain ⟨h, hh, hp⟩ := List.mem_flatMap.mp hp
  obtain ⟨x, hx, rfl⟩ := List.mem_map.mp hp
  have hh : h < 3 := List.mem_range.mp hh
  have h1 : ∀ x ∈ posts12, PyData.strOk x = true := by decide +kernel
  have h2 : PyData.strOk (Txt.lower (abc h ++ "-" ++ aBC h)) = true ∧ (abc h ++ "-" ++ aBC h).length = 3 ∧ PyData.strOk (abc h ++ "-" ++ aBC h) = true := by
    have : h = 0 ∨ h = 1 ∨ h = 2 := by omega
    rcases this with rfl | rfl | rfl <;> decide +kernel
  exact ⟨h2.1, by have := h2.2.1; show (abc h ++ "-" ++ aBC h).length ≤ _; omega, h2.2.2, h1 x (hsd h hh x hx)⟩
theorem law4 (R : Room A 4) (F : Fm (lawEnv w L fa cd) s₀ W m cm s) (hWd : Wd (KK w) mg mb (Vw W s.heap)) (e1 : m "rules" = some vr) (x1 : (HdI lr).p vr (Vw W s.heap)) (M1 : Mu W lr (rs.map pairV) s.heap) (e2 : cm "sends" = some vs) (x2 : (HandsV prog w sd).p vs (Vw W s.heap))
    (e3 : cm "ends" = some ve) (x3 : (LsV [HdI l0, HdI l1]).p ve (Vw W s.heap)) (N0 : Mu W l0 (b0.map pairV) s.heap) (N1 : Mu W l1 (b1.map pairV) s.heap) (hlr : lr ∈ W) (hr0 : lr ≠ l0) (hr1 : lr ≠ l1) (hro : lr ∉ own (lawEnv w L fa cd)) (hB : s₀.heap.get? lr = none)
    (hrs : ∀ p ∈ rs, Fine p) (hrl : rs.length ≤ 1000) (hbare : bareGo rs names6 = sentP sd) (hsd : ∀ h, h < 3 → ∀ x ∈ sd h, x ∈ posts12) (hl2 : ∀ h, h < 3 → (sd h).length ≤ 2) (hb0 : ∀ p ∈ b0, PairOk p) (hb1 : ∀ p ∈ b1, PairOk p) (hn0 : b0.length ≤ 500) (hn1 : b1.length ≤ 500)
    (hend : ∀ h, h < 3 → uldGo (inBox b0 h).reverse [] (inBox b1 h) = ([], [])) :
    wpAny (model prog w) A (execs ((lawB w).1.1.drop 8) (lawEnv w L fa cd)) (fun fl s' => fl = .ret (.bool true) ∧ Keeps s₀ s' ∧ ∃ m, s'.heap.Ns L m) (fun _ _ => False) s := by
  unfold lawB
  dsimp only [List.drop]
  refine st_ifCmp fun E' => ?_
  refine wp_callD (Ps := [HdI lr]) F.ok (pe_global (v := .ref 237) (hWd.mono (vw_kp _ _)) rfl) ((hWd.mono (vw_kp _ _)).inK 237 _ rfl) rfl (pes_cons (pe_name (ld_local F (x := "rules") e1 x1)) pes_nil) fun vs1 s1 k1 hvs1 => ?_
  obtain ⟨⟩ | ⟨h1, hvs1⟩ := hvs1
  cases hvs1
  have kv1 := vw_mono (W := W) (kps_kp k1)
  refine bare_ok (R.less (by decide)) (hWd.mono kv1) h1 hlr (M1.mono (kps_kp k1)) hrs hrl (F.ok.mono (kps_kp k1)) _ _ fun u s2 k2 ok2 ⟨hu, Mr2⟩ => ?_
  have F2 := (F.keeps k1).kb k2 ok2 (hide1 hro hB)
  have kv2 : Kp (Vw W s.heap) (Vw W s2.heap) := kv1.trans (kb_vw (in1 hlr) k2)
  have W2 := hWd.mono kv2
  have x22 := VP.mono _ kv2 x2
  have x32 := VP.mono _ kv2 x3
  have N02 := (N0.mono (kps_kp k1)).kb' k2 (nin1 (Ne.symm hr0)) (in1 hlr)
  have N12 := (N1.mono (kps_kp k1)).kb' k2 (nin1 (Ne.symm hr1)) (in1 hlr)
  have hlen : (sentP sd).length ≤ 6 := by
    unfold sentP
    have := hl2 0 (by decide); have := hl2 1 (by decide); have := hl2 2 (by decide)
    simp [List.range_succ]; omega
  have hlen' : ((List.range 3).flatMap sd).length ≤ 6 := by
    have := hl2 0 (by decide); have := hl2 1 (by decide); have := hl2 2 (by decide)
    simp [List.range_succ]; omega
  have hup : ∀ h, h < 3 → Txt.upper (abc h) = aBC h ∧ (abc h).length ≤ 5592405 ∧ (abc h).length = 1 ∧ (aBC h).length = 1 := fun h hh => by
    have : h = 0 ∨ h = 1 ∨ h = 2 := by omega
    rcases this with rfl | rfl | rfl <;> decide +kernel
  refine (pe_lc2 (Pit := D (.str "abc")) (Pf := fun h => D (.str (abc h))) (Pg := fun _ x => D (.str x)) (Po := fun h x => pairV (abc h ++ "-" ++ aBC h, x)) (List.range 3) sd pe_str (fun v s' _ hv => by rw [← signs_abc]; exact srcs_str R.hd hv) (Nat.le_trans hlen' (by decide)) ?_ ?_) s2 (kps_refl _) ok2 E' _ fun b s3 k3 hb => ?_
  · intro h hr W2' C s' k' kv' hok hx
    have hh := List.mem_range.mp hr
    exact ⟨FL .str (sd h), pe_sub (pe_name (ld_free F2 k' kv' rfl e2 x22)) (pe_name hx) (sub_dict (find_abc (fun k => FL .str (sd k)) hh)), fun v s' _ hv X hX => src_listX R.hd hX hv⟩
  · intro h hr x hx' W2' C s' k' kv' hok hx hx2
    have hh := List.mem_range.mp hr
    obtain ⟨u1, u2, u3, u4⟩ := hup h hh
    have hlc : (abc h ++ "-").length = 2 := by rw [PySem.Str.length_append, u3]; rfl
    exact pe_tuple (pes_cons (pe_bin (pe_bin (pe_name hx) pe_str (op_add_str (by rw [u3]; decide))) (pe_meth (P1 := D (.str (abc h))) (pe_name hx) pes_nil PySem.F.plainAttrs_str PySem.F.slot_str_upper PySem.F.type_str_upper callee_str (fun v vs s _ h1 h2 => call_upper u1 u2 v vs s h1 h2)) (op_add_str (by rw [hlc, u4]; decide))) (pes_cons (pe_name hx2) pes_nil)) (show 2 ≤ sizeLine by decide)
  have hb' : (LsV ((sentP sd).map pairV)).p b (Vw W s3.heap) := by
    unfold sentP
    rw [List.map_flatMap]
    simp only [List.map_map]
    exact hb
  rw [hbare] at hu
  refine op_ne_pairs (prog := prog) (w := w) (W := W) (sent_fine hsd) (sent_fine hsd) R.un u b s3 (LsF.toLs (VP.mono _ (vw_mono (kps_kp k3)) hu)) hb' (ok2.mono (kps_kp k3)) E' _ fun v4 s4 k4 hv4 => ⟨by rw [d_bool hv4]; simp, ?_⟩
  have k24 := kps_trans k3 k4
  have F4 := F2.keeps k24
  have kv4 := vw_mono (W := W) (kps_kp k24)
  have W4 := W2.mono kv4
  have x34 := VP.mono _ kv4 x32
  have N04 := N02.mono (kps_kp k24)
  have N14 := N12.mono (kps_kp k24)
  refine st_return F4 (P := D (.bool (([] : List Str) == []))) (pe_cmp (P1 := FL .str []) (P2 := FL .str []) ?_ (pe_list pes_nil (by decide)) (fun a b s ha hb => op_eq_ls (xs := ([] : List Str)) (ys := []) tells_str.eqv (by intro x hx; cases hx) (by intro x hx; cases hx) (n := 0) (by decide) R.un a b s ha hb)) fun v s5 F5 k5 hv => ⟨by rw [d_bool hv]; rfl, F5.done, _, F5.ns⟩
  refine (pe_lc1 (List.range 3) (Pit := D (.str "abc")) (Pf := fun h => D (.str (abc h))) (Po := fun h => D (.str (abc h))) (fun _ => false) pe_str (fun v s' _ hv => by rw [← signs_abc]; exact srcs_str R.hd hv) (by decide) ?_).sub fun v h hv => by
    have : (List.range 3).filter (fun _ => false) = [] := rfl
    rw [this] at hv
    exact hv
  intro h hr W2' C s5 k5 kv5 ok5 hld
  have hh := List.mem_range.mp hr
  refine ⟨?_, fun z => nomatch z⟩
  have M0 : Mu W2' l0 (b0.map pairV) s5.heap := N04.go (fun o => kps_kp k5 _ o) kv5
  have M1 : Mu W2' l1 (b1.map pairV) s5.heap := N14.go (fun o => kps_kp k5 _ o) kv5
  have W5 := W4.mono kv5
  have hlow : Txt.lower (abc h) = abc h ∧ abc h ∈ names6 := by
    have : h = 0 ∨ h = 1 ∨ h = 2 := by omega
    rcases this with rfl | rfl | rfl <;> decide +kernel
  have hen := hend h hh
  obtain ⟨X1, X2⟩ := inBox_ok (h := h) hb0
  obtain ⟨Y1, Y2⟩ := inBox_ok (h := h) hb1
  refine pt_cmp (P1 := D (twoD [] [])) (P2 := D (twoD [] [])) ((pe_uld0 (xs := inBox b0 h) (ys := inBox b1 h) (R.less (by decide)) W5 (fun s6 k6 => ?_) (fun s6 k6 => ?_) (by rw [hen]) (by omega) (by omega) (fun x hx => (xy_facts (X1 x hx)).1) (fun x hx => (xy_facts (Y1 x hx)).1) (pe_global (v := .ref 45) (W5.mono (vw_kp _ _)) rfl)).sub fun v h hv => ?_) ((pe_tuple (pes_cons (pe_list pes_nil (by decide)) (pes_cons (pe_list pes_nil (by decide)) pes_nil)) (show 2 ≤ sizeLine by decide)).sub fun v h hv => two_of (xs := []) (ys := []) hv) (fun a b s ha hb => ?_)
  · have kv6 := vw_mono (W := W2') (kps_kp k6)
    exact pe_getL (nm := abc h) (R.less (by decide)) (W5.mono kv6) (pe_sub (pe_name (ld_free F4 (kps_trans k5 k6) (kv5.trans kv6) rfl e3 x34)) (pe_nat (i := 0)) (sub_list rfl (by decide))) (pe_name (hld.at k6)) (M0.mono (kps_kp k6)) (nameable6 _ hlow.2) (fun p hp => (hb0 p hp).facts.fine) (by omega) hlow.1 rfl
  · have kv6 := vw_mono (W := W2') (kps_kp k6)
    exact pe_getL (nm := abc h) (R.less (by decide)) (W5.mono kv6) (pe_sub (pe_name (ld_free F4 (kps_trans k5 k6) (kv5.trans kv6) rfl e3 x34)) (pe_nat (i := 1)) (sub_list rfl (by decide))) (pe_name (hld.at k6)) (M1.mono (kps_kp k6)) (nameable6 _ hlow.2) (fun p hp => (hb1 p hp).facts.fine) (by omega) hlow.1 rfl
  · rw [hen] at hv
    exact two_of (xs := []) (ys := []) hv
  · have := op_ne_two (prog := prog) (w := w) (A := A) (W := W2') (xs := []) (xs' := []) (ys := []) (ys' := []) (fun x hx => nomatch hx) (fun x hx => nomatch hx) (fun x hx => nomatch hx) (fun x hx => nomatch hx) R.un a b s ha hb
    simpa using this
end
end Mine
set_option maxRecDepth 100000
set_option maxHeartbeats 400000
set_option linter.unusedVariables false
namespace Mine
open PySem PySem.Spec PySem.Calls PyProof.Rows PySem.W PySem.MeetsSeq
section
variable {prog : Program} {w : World} {W : List Addr} {A : Around} {env : Env} {s₀ s : Shared} {mg mb : Str → Option Value} {m cm : Str → Option Value} {rest : List Stmt} {P P1 P2 : VP} {p p1 pos cp px bp np tpos : Pos} {f : Str → PyData} {e e1 e2 : Expr} {x x1 x2 : Str} {α : Type} {Ps1 Ps2 : List VP}
/-- two trees that each give a list of their own -/
theorem wp_two {E : Value → Shared → Prop} {Q : List Value → Shared → Prop} (hw : WOK W s.heap) (h1 : PE prog w W A env s e1 (LsF s.heap Ps1)) (h2 : ∀ a s2, Keeps s s2 → Mu (a :: W) a Ps1 s2.heap → a ∉ W → s.heap.get? a = none → PE prog w (a :: W) A env s2 e2 (LsF s2.heap Ps2))
    (hQ : ∀ a b s3, Keeps s s3 → s.heap.get? a = none → s.heap.get? b = none → a ∉ W → b ∉ a :: W → a ≠ b → WOK W s3.heap → Mu (b :: a :: W) a Ps1 s3.heap → Mu (b :: a :: W) b Ps2 s3.heap → Q [.ref a, .ref b] s3)
    (he1 : starEach [e1, e2] env = (false, eval e1 env) :: starEach [e2] env := by rfl) (he2 : starEach [e2] env = [(false, eval e2 env)] := by rfl) :
    wpAny (model prog w) A (spliced (backTo pos (starEach [e1, e2] env))) Q E s := by
  rw [he1, he2]
  refine spliced_cons (h1 s (kps_refl _) hw E _ fun v2 s2 k2 hv2 => ?_)
  have ok2 := hw.mono (kps_kp k2)
  obtain ⟨a, rfl, ha0, haW, Ma⟩ := LsF.mu hv2
  have ok2a : WOK (a :: W) s2.heap := by obtain ⟨us, ⟨n, g⟩, r⟩ := Ma; exact ok2.cons g
  refine spliced_cons (h2 a s2 k2 Ma haW ha0 s2 (kps_refl _) ok2a E _ fun v3 s3 k3 hv3 => ?_)
  obtain ⟨b, rfl, hb0, hbW, Mb⟩ := LsF.mu hv3
  have hab : a ≠ b := fun z => hbW (z ▸ .head _)
  have kq : Kp (Vw (a :: W) s2.heap) (Vw (b :: a :: W) s3.heap) := kv_hide (vw_mono (kps_kp k3)) hb0
  exact wpAny_items_nil (env := env) (pos := pos) (hQ a b s3 (kps_trans k2 k3) ha0 (none_of (kps_kp k2) hb0) haW hbW hab (ok2.mono (kps_kp k3)) (Ma.go (fun o => kps_kp k3 _ o) kq) Mb)
theorem wp_uld2 {Q E : Value → Shared → Prop} (hw : WOK W s.heap) (hX : (KK w).In s.heap) (hn : PE prog w W A env s (.Name "unorderable_list_difference" p) (Is (.ref 45))) (h1 : ∀ s1, Keeps s s1 → PE prog w W A env s1 e1 (LsF s1.heap Ps1)) (h2 : ∀ a s2, Keeps s s2 → Mu (a :: W) a Ps1 s2.heap → a ∉ W → s.heap.get? a = none → PE prog w (a :: W) A env s2 e2 (LsF s2.heap Ps2))
    (hQ : ∀ a b s3, Keeps s s3 → s.heap.get? a = none → s.heap.get? b = none → a ∉ W → b ∉ a :: W → a ≠ b → WOK W s3.heap → Mu (b :: a :: W) a Ps1 s3.heap → Mu (b :: a :: W) b Ps2 s3.heap → wpAny (model prog w) A (call (.ref 45) [.ref a, .ref b]) Q E s3)
    (he1 : starEach [e1, e2] env = (false, eval e1 env) :: starEach [e2] env := by rfl) (he2 : starEach [e2] env = [(false, eval e2 env)] := by rfl) :
    wpAny (model prog w) A (eval (.Call (.Name "unorderable_list_difference" p) [e1, e2] [] pos) env) Q E s := by
  refine wpAny_Call_NameR (hn s (kps_refl s) hw E _ fun v s1 k1 hv => ?_)
  rw [show v = .ref 45 from hv]
  refine callWith_K (K := KK w) hX rfl ?_ he1 (by rw [he2]; rfl)
  exact wp_two (hw.mono (kps_kp k1)) (h1 s1 k1) (fun a s2 k2 M ha h0 => h2 a s2 (kps_trans k1 k2) M ha (none_of (kps_kp k1) h0)) (fun a b s3 k3 ha0 hb0 haW hbW hab ok3 Ma Mb => ⟨hX.keeps (kps_kp (kps_trans k1 k3)), hQ a b s3 (kps_trans k1 k3) (none_of (kps_kp k1) ha0) (none_of (kps_kp k1) hb0) haW hbW hab ok3 Ma Mb⟩) he1 he2
/-- one that nothing is missing in, told as it stands in a test -/
theorem pe_uldB {xs ys : List Str} (T : Tells f) (R : Room A 1) (hWv : Wd (KK w) mg mb (Vw W s₀.heap)) (h1 : ∀ s1, Keeps s₀ s1 → PE prog w W A env s1 e1 (LsF s1.heap (xs.map fun x => D (f x)))) (h2 : ∀ a s2, Keeps s₀ s2 → a ∉ W → s₀.heap.get? a = none → (∃ o, s2.heap.get? a = some o) → PE prog w (a :: W) A env s2 e2 (LsF s2.heap (ys.map fun x => D (f x))))
    (hm : (uldGo xs.reverse [] ys).1 = []) (hs1 : xs.length ≤ 1000) (hs2 : ys.length ≤ 1000) (hx : ∀ x ∈ xs, PyData.strOk x = true) (hy : ∀ x ∈ ys, PyData.strOk x = true)
    (hn : PE prog w W A env s₀ (.Name "unorderable_list_difference" p) (Is (.ref 45))) (he1 : starEach [e1, e2] env = (false, eval e1 env) :: starEach [e2] env := by rfl) (he2 : starEach [e2] env = [(false, eval e2 env)] := by rfl) :
    PE prog w W A env s₀ (.Call (.Name "unorderable_list_difference" p) [e1, e2] [] pos) (TpV [FL f [], FL f (uldGo xs.reverse [] ys).2]) := by
  intro s k hw E Q hQ
  have hW1 := hWv.mono (vw_mono (W := W) (kps_kp k))
  refine wp_uld2 hw (hW1.mono (vw_kp _ _)).inK (hn.at k) (fun s1 k1 => h1 s1 (kps_trans k k1)) (fun a s2 k2 M haW ha0 => h2 a s2 (kps_trans k k2) haW (none_of (kps_kp k) ha0) (by obtain ⟨us, ⟨n, g⟩, r⟩ := M; exact ⟨_, g⟩)) (fun a b s3 k3 ha0 hb0 haW hbW hab ok3 Ma Mb => ?_) he1 he2
  have hWd : Wd (KK w) mg mb (Vw (b :: a :: W) s3.heap) := hW1.mono fun c o e => vw_to (kps_kp k3 _ _ (vw_of e).1) fun z => by
    rcases List.mem_cons.mp z with rfl | z
    · rw [(vw_of e).1] at hb0; cases hb0
    · rcases List.mem_cons.mp z with rfl | z
      · rw [(vw_of e).1] at ha0; cases ha0
      · exact (vw_of e).2 z
  refine uld0_core T R hWd hab haW (fun z => hbW (.tail _ z)) Ma Mb ok3 hm hs1 hs2 hx hy fun v4 s4 k4 hv4 => hQ _ _ (kb_new k3 (fun c hc => ?_) k4) hv4
  rcases List.mem_cons.mp hc with rfl | hc
  · exact ha0
  · rw [List.mem_singleton.mp hc]; exact hb0
/-- if not (a and b), where both are so -/
theorem st_ifNotAnd {body : List Stmt} {Q : Flow → Shared → Prop} {E : Value → Shared → Prop}
    (h : ∀ E', wpAny (model prog w) A (eval e1 env) (fun v s1 => v = .bool true ∧ wpAny (model prog w) A (eval e2 env) (fun v s2 => v = .bool true ∧ wpAny (model prog w) A (execs rest env) Q E s2) E' s1) E' s)
    (g1 : ∀ whole : Sem Value, isTrue e1 env whole = (do let v ← whole; standAt e1.pos; holding [v] (truthy v)) := by intro _; rfl) (g2 : ∀ whole : Sem Value, isTrue e2 env whole = (do let v ← whole; standAt e2.pos; holding [v] (truthy v)) := by intro _; rfl) :
    wpAny (model prog w) A (execs (.If (.UnaryOp .Not (.BoolOp .And [e1, e2] bp) np) body [] pos :: rest) env) Q E s := by
  refine wpAny_execs_cons (wpAny_If (wpAny_isTrue_Not (isTrue_and (isTrue_plain (wpAny_mono (h _) (fun v s1 ⟨hv, h1⟩ => ?_) fun _ _ e => e) (g1 _)))))
  subst hv
  refine wpAny_truthy_bool ?_
  simp only [if_true]
  refine isTrue_and (isTrue_plain (wpAny_mono h1 (fun v s2 ⟨hv, h2⟩ => ?_) fun _ _ e => e) (g2 _))
  subst hv
  refine wpAny_truthy_bool ?_
  simp only [if_true]
  refine isTrue_and_nil ?_
  simp only [Bool.not_true, Bool.false_eq_true, if_false]
  exact wpAny_execs_nil h2
/-- x1, x2 = (e1, e2), each a list of its own -/
theorem st_swap2 {k k' : Nat} {Q : Flow → Shared → Prop} {E : Value → Shared → Prop} (hh : A.handled = none) (F : Fm env s₀ W m cm s) (h1 : PE prog w W A env s e1 (LsF s.heap Ps1)) (h2 : ∀ a s2, Keeps s s2 → Mu (a :: W) a Ps1 s2.heap → a ∉ W → s.heap.get? a = none → PE prog w (a :: W) A env s2 e2 (LsF s2.heap Ps2))
    (h : ∀ a b s3, Fm env s₀ (b :: a :: W) (fun y => if y = x1 then some (.ref a) else if y = x2 then some (.ref b) else m y) cm s3 → KB [env.locals] s s3 → s.heap.get? a = none → s.heap.get? b = none → a ∉ W → b ∉ a :: W → a ≠ b → Mu (b :: a :: W) a Ps1 s3.heap → Mu (b :: a :: W) b Ps2 s3.heap → wpAny (model prog w) A (execs rest env) Q E s3)
    (hl1 : env.kindOf x1 = some .local := by rfl) (hl2 : env.kindOf x2 = some .local := by rfl)
    (hs : swapsWithSole [.Tuple [.Name x1 p, .Name x2 p1] k tpos] (.Tuple [e1, e2] k' cp) pos.line env = pure false := by rfl)
    (hsw : swappedStores [.Tuple [.Name x1 p, .Name x2 p1] k tpos] (.Tuple [e1, e2] k' cp) env = pure (some [x1, x2]) := by rfl)
    (he1 : starEach [e1, e2] env = (false, eval e1 env) :: starEach [e2] env := by rfl) (he2 : starEach [e2] env = [(false, eval e2 env)] := by rfl) :
    wpAny (model prog w) A (execs (.Assign [.Tuple [.Name x1 p, .Name x2 p1] k tpos] (.Tuple [e1, e2] k' cp) pos :: rest) env) Q E s := by
  refine wpAny_execs_cons (Assign_Tuple_swapped (wpAny_Tuple_spliced (wp_two F.ok h1 h2 (fun a b s3 k3 ha0 hb0 haW hbW hab ok3 Ma Mb => ⟨show 2 ≤ sizeLine by decide, ?_⟩) he1 he2)) hs hsw)
  have kp3 : Keeps s3 { s3 with heap := s3.heap.push { cls := .type "tuple", data := .seq [Value.ref a, .ref b].toArray } } := kps_push
  have ht : (s3.heap.push { cls := .type "tuple", data := .seq [Value.ref a, .ref b].toArray }).IsTuple s3.heap.objs.size [Value.ref a, .ref b].toArray := ⟨_, Heap.get?_push_size _ rfl, rfl, 0, rfl⟩
  have key := fun Q h => wpAny_unpackItems_tuple (prog := prog) (w := w) (A := A) (E := E) (s := { s3 with heap := s3.heap.push { cls := .type "tuple", data := .seq [Value.ref a, .ref b].toArray } }) (Q := Q) hh ht h
  refine key _ fun h' hx => ?_
  clear key
  have k4 : Keeps s3 { s3 with heap := h' } := kps_heap fun b o e => hx b o (by
    rw [Heap.size_push]
    exact Nat.ne_of_lt (Nat.lt_succ_of_lt (Heap.lt_size e))) (Heap.get?_push_of_some _ e)
  have F4 : Fm env s₀ (b :: a :: W) m cm { s3 with heap := h' } := ((F.keeps k3).hideMore (fun c hc => .tail _ (.tail _ hc)) (by
    obtain ⟨us, ⟨n, g⟩, r⟩ := Ma
    obtain ⟨us', ⟨n', g'⟩, r'⟩ := Mb
    exact (ok3.cons g).cons g')).keeps k4
  have hL4 : ∀ c ∈ [env.locals], c ∈ b :: a :: W := in1 (.tail _ (.tail _ F.loc))
  have haL : a ≠ env.locals := fun z => haW (z ▸ F.loc)
  have hbL : b ≠ env.locals := fun z => hbW (z ▸ .tail _ F.loc)
  refine ord_cons (wpAny_bindName (store_local F4 (fun s5 F5 k5 => ?_) hl2))
  refine ord_cons (wpAny_bindName (store_local F5 (fun s6 F6 k6 => ?_) hl1))
  have k56 := kb_trans k5 k6
  exact ord_nil (h a b s6 F6 (kb_trans (kb_of (kps_trans k3 k4)) k56) ha0 hb0 haW hbW hab ((Ma.mono (kps_kp k4)).kb' k56 (nin1 haL) hL4) ((Mb.mono (kps_kp k4)).kb' k56 (nin1 hbL) hL4))
end
end Mine
set_option maxRecDepth 100000
set_option maxHeartbeats 400000
set_option linter.unusedVariables false
namespace Mine
open PySem PySem.Spec PySem.Calls PyProof.Rows PySem.W PySem.MeetsSeq
section
variable {prog : Program} {w : World} {W : List Addr} {A : Around} {env : Env} {s₀ s : Shared} {mg mb : Str → Option Value} {m cm : Str → Option Value} {rest : List Stmt} {P P1 P2 : VP} {f : Str → PyData} {h : Heap}
theorem ints_of : ∀ {ns : List Int} {us : List Value}, VAll h (ns.map fun n => D (.int n)) us → ∃ l : List (Int × Tok), us = l.map (fun p => Value.int p.1 p.2) ∧ l.map (·.1) = ns
  | [], _, .nil => ⟨[], rfl, rfl⟩
  | n :: ns, _, .cons a b => by
    obtain ⟨t, rfl⟩ := d_int a
    obtain ⟨l, rfl, e⟩ := ints_of b
    exact ⟨(n, t) :: l, rfl, by rw [List.map_cons, e]⟩
theorem call_sum {ns : List Int} (hh : A.handled = none) (vs : List Value) (s : Shared) (hvs : VAll (Vw W s.heap) [LsV (ns.map fun n => D (.int n))] vs) : Ev prog w W A (call (.builtin "sum") vs) (D (.int ns.sum)) s := by
  obtain ⟨⟩ | ⟨h1, hvs⟩ := hvs
  cases hvs
  obtain ⟨a, n, us, rfl, g, r⟩ := h1
  obtain ⟨l, hl, hns⟩ := ints_of r
  intro hw E Q hQ
  have e : us = PySem.intItems l.toArray := by
    apply Array.toList_inj.mp
    rw [hl]
    simp [PySem.intItems]
  refine PySem.sum_intListG (xs := l.toArray) hh ⟨_, (vw_of g).1, rfl, n, by rw [e]⟩ fun h' tk t' hk => ?_
  have e2 : preSum (numAt l.toArray) l.toArray.size = ns.sum := by
    rw [preSum_eq, List.take_of_length_le (by simp)]
    rw [← hns]
  rw [e2]
  exact hQ _ _ (kps_mk hk) (d_ofInt _ _ _)
theorem sub_listD {ds : List PyData} {d : PyData} {i : Nat} (hi : ds[i]? = some d) (hs : (i : Int) < 2 ^ 63) (o v : Value) (s : Shared) (ho : (D (.list ds)).p o (Vw W s.heap)) (hv : (D (.int (i : Int))).p v (Vw W s.heap)) :
    (∃ T, Plainly T o s) ∧ Ev prog w W A (getItem o v) (D d) s := by
  obtain ⟨as, r⟩ := ho
  cases r with
  | list g c dd ra =>
    rename_i a ob vs n as
    obtain ⟨t, rfl⟩ := d_int hv
    have g' := (vw_of g).1
    have hl : s.heap.IsList a vs := ⟨_, g', c, n, dd⟩
    obtain ⟨u, e1, e2⟩ := (vall_of ra).get (P := D d) i (by rw [List.getElem?_map, hi]; rfl)
    exact ⟨⟨"list", ⟨_, PySem.F.slot_list_getitem.lookup⟩, _, g', c⟩, fun _ E Q hQ => wpAny_getItem_list hl (Int.natCast_nonneg i) hs (by simpa using e1) (hQ _ _ (kps_refl _) e2)⟩
abbrev twoF (f : Str → PyData) (xs ys : List Str) : PyData := .tuple [.list (xs.map f), .list (ys.map f)]
theorem twoF_good {n : Nat} (hg : ∀ x, PyData.strOk x = true → Good n (f x)) (hn : n ≤ 60) {xs ys : List Str} (hx : ∀ x ∈ xs, PyData.strOk x = true) (hy : ∀ x ∈ ys, PyData.strOk x = true) : SeqAt.shaped (twoF f xs ys) = true := by
  have g : Good (n + 2) (twoF f xs ys) := good_tuple fun d hd => by
    rcases List.mem_cons.mp hd with rfl | hd
    · exact good_list fun d hd => by obtain ⟨x, h, rfl⟩ := List.mem_map.mp hd; exact hg x (hx x h)
    · rw [List.mem_singleton.mp hd]
      exact good_list fun d hd => by obtain ⟨x, h, rfl⟩ := List.mem_map.mp hd; exact hg x (hy x h)
  exact g.shaped (by omega)
theorem op_ne_twoF {n : Nat} (T : Tells f) (hg : ∀ x, PyData.strOk x = true → Good n (f x)) (hn : n ≤ 60) {xs ys : List Str} (hx : ∀ x ∈ xs, PyData.strOk x = true) (hy : ∀ x ∈ ys, PyData.strOk x = true) (hu : A.units + 64 < cLine) (a b : Value) (s : Shared)
    (ha : (TpV [FL f xs, FL f ys]).p a (Vw W s.heap)) (hb : (TpV [FL f xs, FL f ys]).p b (Vw W s.heap)) : Ev prog w W A (compareOp .NotEq a b) (D (.bool false)) s := by
  have two : ∀ v, (TpV [FL f xs, FL f ys]).p v (Vw W s.heap) → (D (twoF f xs ys)).p v (Vw W s.heap) := fun v hv => TpV.toD (ds := [.list (xs.map f), .list (ys.map f)]) (TpV.two hv (fun _ h => lsD h) (fun _ h => lsD h))
  have := op_ne (prog := prog) (w := w) (twoF_good hg hn hx hy) (twoF_good hg hn hx hy) hu a b s (two _ ha) (two _ hb)
  have e : PyData.eqv (twoF f xs ys) (twoF f xs ys) = true := by simp [PyData.eqv, PyData.eqvAll, eqvAll_map T.eqv]
  rwa [e] at this
theorem good_one {x : Str} (h : PyData.strOk x = true) : Good 1 (one1 x) := good_list fun d hd => by rw [List.mem_singleton.mp hd]; exact good_str h
theorem op_ne_int {x y : Int} (hu : A.units + 64 < cLine) (a b : Value) (s : Shared) (ha : (D (.int x)).p a (Vw W s.heap)) (hb : (D (.int y)).p b (Vw W s.heap)) : Ev prog w W A (compareOp .NotEq a b) (D (.bool (!(x == y)))) s := by
  have := op_ne (prog := prog) (w := w) (x := .int x) (y := .int y) (by simp [SeqAt.shaped, PyData.canLay0, PyData.depth]) (by simp [SeqAt.shaped, PyData.canLay0, PyData.depth]) hu a b s ha hb
  simpa [PyData.eqv] using this
end
end Mine
set_option maxRecDepth 100000
set_option maxHeartbeats 1000000
set_option linter.unusedVariables false
namespace Mine
open PySem PySem.Spec PySem.Calls PyProof.Rows PySem.W PySem.MeetsSeq
def forBody : List Stmt → List Stmt
  | .For _ _ b _ _ :: _ => b
  | _ => []
/-- what is so of one turn -/
structure TurnOk (tk sd : Nat → List Str) (first : List Str) (r r' lt : List Nat) (bs be : List (Str × Str)) : Prop where
  later : dueR (r.map abc) (r'.map abc) = lt.map abc
  go1 : ∀ n, n < r.length → lackOf tk (goGo tk sd r bs n) (r.getD n 0) = []
  go2 : ∀ n, n < lt.length → lackOf tk (goGo tk sd lt (goGo tk sd r bs r.length) n) (lt.getD n 0) = []
  beq : be = goGo tk sd lt (goGo tk sd r bs r.length) lt.length
  box : ∀ h, h < 3 → inBox be h = boxOf tk sd first (r ++ lt) h
  len : be.length = ((List.range 3).map fun h => (boxOf tk sd first (r ++ lt) h).length).sum
  r3 : ∀ x ∈ r, x < 3
  r3' : ∀ x ∈ r', x < 3
  l3 : ∀ x ∈ lt, x < 3
  rl : r.length + r'.length ≤ 6
  ll : lt.length ≤ r'.length
  bsok : ∀ p ∈ bs, PairOk p
  bl : bs.length ≤ 5
/-- what the cells say -/
structure CellsOk (tk sd : Nat → List Str) (first : List Str) : Prop where
  sdok : ∀ h, h < 3 → ∀ x ∈ sd h, x ∈ posts12
  sl : ∀ h, h < 3 → (sd h).length ≤ 2
  tkok : ∀ h, h < 3 → ∀ x ∈ tk h, x = xy 0 ∨ x = xy 1
  tl : ∀ h, h < 3 → (tk h).length ≤ 2
  fi : ∀ x ∈ first, x ∈ posts12
  fl : first.length ≤ 5
section
variable {prog : Program} {w : World} {W : List Addr} {A : Around} {env : Env} {s₀ s : Shared} {mg mb : Str → Option Value} {m cm : Str → Option Value} {L fa lr lk l0 l1 : Addr} {cd vr vs ve vk vru vt vw : Value} {tk sd : Nat → List Str} {rs bs be : List (Str × Str)} {first : List Str} {r r' lt : List Nat} {i : Nat} {p pos : Pos} {e : Expr}
theorem pe_alone {xs : List Str} (R : Room A 1) (hW : Wd (KK w) mg mb s₀.heap) (he : PE prog w W A env s₀ e (FL .str xs)) (hsz : xs.length ≤ 1000) (hn : PE prog w W A env s₀ (.Name "_law_alone" p) (Is (.ref 220))) (hse : starEach [e] env = (false, eval e env) :: starEach [] env := by rfl) :
    PE prog w W A env s₀ (.Call (.Name "_law_alone" p) [e] [] pos) (LsF s₀.heap (xs.map fun x => D (one1 x))) :=
  (pe_call_def (P := LsF s₀.heap (xs.map fun x => LsV [D (.str x)])) hn (hW.inK 220 _ rfl) rfl (pes_cons he pes_nil hse) (fun vs s k h => by
    obtain ⟨⟩ | ⟨h1, h2⟩ := h
    cases h2
    exact (aloneF_ok R (hW.mono (kps_kp k)) h1 (by rw [sizeLine_eq]; omega)).sub fun v h hv => LsF.less hv (kps_kp k)) hse).sub fun v h hv => LsF.one hv
theorem kb_add {X M : List Addr} {s1 s2 : Shared} (k : KB X s s1) (k2 : KB M s1 s2) (h : ∀ c ∈ M, c ∈ X ∨ s.heap.get? c = none) : KB X s s2 := by
  obtain ⟨h1, tk1, rfl, q1⟩ := k
  obtain ⟨h2, tk2, rfl, q2⟩ := k2
  exact ⟨h2, tk2, rfl, fun c o e => q2 c o (vw_to (q1 c o e) fun m => by
    obtain ⟨e1, e2⟩ := vw_of e
    rcases h c m with z | z
    · exact e2 z
    · rw [z] at e1; cases e1)⟩
theorem uldGo_sub1 : ∀ (r ms ys : List Str), ∀ x ∈ (uldGo r ms ys).1, x ∈ ms ∨ x ∈ r
  | [], _, _, x, h => .inl h
  | y :: r, ms, ys, x, h => by
    unfold uldGo at h
    split at h
    · rcases uldGo_sub1 r ms _ x h with z | z
      · exact .inl z
      · exact .inr (.tail _ z)
    · rcases uldGo_sub1 r _ ys x h with z | z
      · rcases List.mem_append.mp z with z | z
        · exact .inl z
        · rw [List.mem_singleton.mp z]; exact .inr (.head _)
      · exact .inr (.tail _ z)
theorem abcs_ok {r : List Nat} (h : ∀ x ∈ r, x < 3) : ∀ x ∈ r.map abc, PyData.strOk x = true := fun x hx => by
  obtain ⟨y, hy, rfl⟩ := List.mem_map.mp hx
  exact abc_ok (h y hy)
theorem law3_turn {E : Value → Shared → Prop} (hdue : ∀ xs ys : List Str, uldGo xs.reverse [] ys = (dueL xs ys, dueR xs ys)) (R : Room A 4) (hA : A.frames = some [lawEnv w L fa cd]) (F : Fm (lawEnv w L fa cd) s₀ W m cm s) (hWd : Wd (KK w) mg mb (Vw W s.heap))
    (e0 : m "k" = some vk) (x0 : (D (.int (i : Int))).p vk (Vw W s.heap)) (e1 : m "rules" = some vr) (x1 : (HdI lr).p vr (Vw W s.heap)) (e2 : m "runs" = some vru) {Pru : List VP} (x2 : (LsV Pru).p vru (Vw W s.heap)) (g2 : Pru[i]? = some (FL .str (r.map abc))) (g2' : Pru[1 - i]? = some (FL .str (r'.map abc)))
    (e3 : cm "takes" = some vt) (x3 : (HandsV prog w tk).p vt (Vw W s.heap)) (e4 : cm "sends" = some vs) (x4 : (HandsV prog w sd).p vs (Vw W s.heap)) (e5 : cm "world" = some vw) (x5 : (WorldV prog w tk sd first).p vw (Vw W s.heap)) (e6 : cm "ends" = some ve) {Pen : List VP} (x6 : (LsV Pen).p ve (Vw W s.heap)) (g6 : Pen[i]? = some (HdI lk))
    (Mr : Mu W lr (rs.map pairV) s.heap) (Mk : Mu W lk (bs.map pairV) s.heap) (hlr : lr ∈ W) (hlk : lk ∈ W) (hrk : lr ≠ lk) (hro : lr ∉ own (lawEnv w L fa cd)) (hko : lk ∉ own (lawEnv w L fa cd)) (hBk : s₀.heap.get? lk = none)
    (hi : i ≤ 1) (RO : RulesOk tk sd rs) (C : CellsOk tk sd first) (T : TurnOk tk sd first r r' lt bs be) (U : Under w L (Vw W s.heap)) :
    wpAny (model prog w) A (execs (forBody ((lawB w).1.1.drop 7)) (lawEnv w L fa cd)) (fun f s3 => (f = .next ∨ f = .cont) ∧ ∃ m3 cm3, Fm (lawEnv w L fa cd) s₀ W m3 cm3 s3 ∧ (m3 "rules" = some vr ∧ m3 "runs" = some vru) ∧ (cm3 "takes" = some vt ∧ cm3 "sends" = some vs ∧ cm3 "world" = some vw ∧ cm3 "ends" = some ve) ∧ KB (lk :: own (lawEnv w L fa cd)) s s3 ∧ Mu W lk (be.map pairV) s3.heap) E s := by
  unfold lawB
  dsimp only [List.drop, forBody]
  have hr4 : r.length ≤ 6 := by have := T.rl; omega
  have hr4' : r'.length ≤ 6 := by have := T.rl; omega
  have hLW : L ∈ W := F.loc
  obtain ⟨O, hO⟩ : ∃ O, O = own (lawEnv w L fa cd) := ⟨_, rfl⟩
  have hOW : ∀ b ∈ O, b ∈ W := fun b hb => F.own b (hO ▸ hb)
  have hLO : L ∈ O := hO ▸ .head _
  have hLs : s₀.heap.get? L = none := F.off L (hO ▸ hLO)
  -- told
  refine st_assign (wp_uld2 (Ps1 := (r.map abc).map fun x => D (one1 x)) (Ps2 := (r'.map abc).map fun x => D (one1 x)) F.ok (hWd.mono (vw_kp _ _)).inK (pe_global (v := .ref 45) (hWd.mono (vw_kp _ _)) rfl) (fun s1 k1 => ?_) (fun a s2 k2 M haW ha0 => ?_) (fun a b s3 k3 ha0 hb0 haW hbW hab ok3 Ma Mb => ?_))
  · have kv1 := vw_mono (W := W) (kps_kp k1)
    have W1 := (hWd.mono kv1).mono (vw_kp _ _)
    exact pe_alone (R.less (by decide)) W1 (pe_sub (pe_name (ld_local (F.keeps k1) (x := "runs") e2 (VP.mono _ kv1 x2))) (pe_name (ld_local (F.keeps k1) (x := "k") e0 (VP.mono _ kv1 x0))) (sub_list g2 (by omega))) (by rw [List.length_map]; omega) (pe_global (v := .ref 220) W1 rfl)
  · have kv2 : Kp (Vw W s.heap) (Vw (a :: W) s2.heap) := kv_hide (vw_mono (kps_kp k2)) ha0
    have W2 := (hWd.mono kv2).mono (vw_kp _ _)
    have F2 := (F.keeps k2).hide M
    exact pe_alone (R.less (by decide)) W2 (pe_sub (P2 := D (.int ((1 - i : Nat) : Int))) (pe_name (ld_local F2 (x := "runs") e2 (VP.mono _ kv2 x2))) (pe_bin (pe_nat (i := 1)) (pe_name (ld_local F2 (x := "k") e0 (VP.mono _ kv2 x0))) (op_subN hi)) (sub_list g2' (by omega))) (by rw [List.length_map]; omega) (pe_global (v := .ref 220) W2 rfl)
  have kv3 : Kp (Vw W s.heap) (Vw (b :: a :: W) s3.heap) := fun c o e => vw_to (kps_kp k3 _ _ (vw_of e).1) fun z => by
    rcases List.mem_cons.mp z with rfl | z
    · rw [(vw_of e).1] at hb0; cases hb0
    · rcases List.mem_cons.mp z with rfl | z
      · rw [(vw_of e).1] at ha0; cases ha0
      · exact (vw_of e).2 z
  have W3 := hWd.mono kv3
  have hs2 : ∀ c ∈ W, c ∈ b :: a :: W := fun c hc => .tail _ (.tail _ hc)
  have hbW' : b ∉ W := fun z => hbW (.tail _ z)
  have F3 := (F.keeps k3).hideMore hs2 (by
    obtain ⟨us, ⟨n, g⟩, q⟩ := Ma
    obtain ⟨us', ⟨n', g'⟩, q'⟩ := Mb
    exact (ok3.cons g).cons g')
  have S3 : Stk A [lawEnv w L fa cd] s3.heap := ⟨hA, fun en hen => by
    rw [List.mem_singleton.mp hen]
    obtain ⟨o, es, n, q, hd, _⟩ := F3.ns
    exact ⟨by rw [F3.fn]; decide, L, o, rfl, q, fun vs z => by rw [hd] at z; cases z⟩⟩
  have hfs : fsOf [lawEnv w L fa cd] = [L] := rfl
  refine uld_ok (prog := prog) (w := w) tells_one (fs := [L]) (R.less (by decide)) W3 (in1 (hs2 _ hLW)) (.tail _ (.head _)) (.head _) hab (nin1 fun z => haW (z ▸ hLW)) (nin1 fun z => hbW' (z ▸ hLW)) Ma Mb (by rw [sizeLine_eq, List.length_map]; omega) (by rw [sizeLine_eq, List.length_map]; omega) (abcs_ok T.r3) (abcs_ok T.r3') (fun _ => ⟨_, hfs.symm, S3⟩) F3.ok _ _ fun vd s4 k4 ok4 ⟨hto, Ma4, Mb4, fu4⟩ => ?_
  rw [hdue] at hto Mb4
  dsimp only at hto Mb4
  have hdL : ∀ x ∈ dueL (r.map abc) (r'.map abc), PyData.strOk x = true := fun x hx => by
    have := uldGo_sub1 (r.map abc).reverse [] (r'.map abc) x (by rw [hdue]; exact hx)
    rcases this with z | z
    · cases z
    · exact abcs_ok T.r3 x (List.mem_reverse.mp z)
  have hdR : ∀ x ∈ dueR (r.map abc) (r'.map abc), PyData.strOk x = true := fun x hx => by
    have := uldGo_sub (r.map abc).reverse [] (r'.map abc) x (by rw [hdue]; exact hx)
    exact abcs_ok T.r3' x this
  have hM4 : ∀ c ∈ [a, b, L], c ∈ b :: a :: W := fun c hc => by
    rcases List.mem_cons.mp hc with rfl | hc
    · exact .tail _ (.head _)
    · rcases List.mem_cons.mp hc with rfl | hc
      · exact .head _
      · rw [List.mem_singleton.mp hc]; exact hs2 _ hLW
  have haO : a ∉ O := fun z => haW (hOW _ z)
  have hbO : b ∉ O := fun z => hbW' (hOW _ z)
  have F4 := (F3.upM (M := [a, b]) (fs := [L]) k4 fu4 ok4 (fun c hc => by
    rcases List.mem_cons.mp hc with rfl | hc
    · exact ⟨by rw [← hO]; exact haO, none_of F.keep ha0⟩
    · rw [List.mem_singleton.mp hc]
      exact ⟨by rw [← hO]; exact hbO, none_of F.keep hb0⟩) (fun c hc => by rw [List.mem_singleton.mp hc]; exact hLs)).hideLess (W' := W) hs2 F.own
  have kv4 : Kp (Vw W s.heap) (Vw W s4.heap) := (kv3.trans (kb_vw hM4 k4)).trans (vw_sub hs2)
  have kx4 : KB (lk :: O) s s4 := kb_add (kb_of k3) k4 fun c hc => by
    rcases List.mem_cons.mp hc with rfl | hc
    · exact .inr ha0
    · rcases List.mem_cons.mp hc with rfl | hc
      · exact .inr hb0
      · rw [List.mem_singleton.mp hc]; exact .inl (.tail _ hLO)
  have lb4 : (FL one1 (dueR (r.map abc) (r'.map abc))).p (.ref b) (Vw W s4.heap) := Mb4.see hs2 hbW'
  have to4 : (TpV [FL one1 (dueL (r.map abc) (r'.map abc)), FL one1 (dueR (r.map abc) (r'.map abc))]).p vd (Vw W s4.heap) := TpV.two (VP.mono _ (vw_sub hs2) hto) (fun u hu => LsF.toLs hu) fun u hu => by rw [show u = .ref b from hu]; exact lb4
  have hL1 : ∀ c ∈ [L], c ∈ W := in1 hLW
  have alive : ∀ {c : Addr} {Ps : List VP}, Mu W c Ps s.heap → c ≠ a ∧ c ≠ b := fun M => by
    obtain ⟨us, ⟨n, g⟩, q⟩ := M
    exact ⟨fun z => (by rw [z, ha0] at g; cases g), fun z => (by rw [z, hb0] at g; cases g)⟩
  have hlL : lk ≠ L := fun z => hko (by rw [← hO, z]; exact hLO)
  have hrL : lr ≠ L := fun z => hro (by rw [← hO, z]; exact hLO)
  have n3 : ∀ {c : Addr}, c ≠ a → c ≠ b → c ≠ L → c ∉ [a, b, L] := fun h1 h2 h3 z => (List.mem_cons.mp z).elim h1 fun z => (List.mem_cons.mp z).elim h2 fun z => h3 (List.mem_singleton.mp z)
  have Mk4 : Mu W lk (bs.map pairV) s4.heap := Mk.go (fun o q => kb_kp k4 _ _ (vw_to (kps_kp k3 _ _ q) (n3 (alive Mk).1 (alive Mk).2 hlL))) kv4
  have Mr4 : Mu W lr (rs.map pairV) s4.heap := Mr.go (fun o q => kb_kp k4 _ _ (vw_to (kps_kp k3 _ _ q) (n3 (alive Mr).1 (alive Mr).2 hrL))) kv4
  refine store_local F4 (fun s5 F5 k5 => ?_) rfl
  have kv5' : Kp (Vw W s4.heap) (Vw W s5.heap) := kb_vw hL1 k5
  have kv5 := kv4.trans kv5'
  have kx5 := kb_add kx4 k5 fun c hc => .inl (by rw [List.mem_singleton.mp hc]; exact .tail _ hLO)
  have U5 := U.mono kv5
  have y0 := VP.mono _ kv5 x0
  have y1 := VP.mono _ kv5 x1
  have y2 := VP.mono _ kv5 x2
  have y3 := VP.mono _ kv5 x3
  have y4 := VP.mono _ kv5 x4
  have y5 := VP.mono _ kv5 x5
  have y6 := VP.mono _ kv5 x6
  have to5 := VP.mono _ kv5' to4
  have W5 := hWd.mono kv5
  have Mk5 := Mk4.kb' k5 (nin1 hlL) hL1
  have Mr5 := Mr4.kb' k5 (nin1 hrL) hL1
  clear x0 x1 x2 x3 x4 x5 x6 to4 lb4 hto Ma Mb Ma4 Mb4 kv3 W3 S3 F3 fu4 k4 k3 kv4 kv5 kv5' Mk4 Mr4 alive Mr Mk
  have runK : ∀ {W' : List Addr} {m' cm'} {s' : Shared} {p1 p2 p3 : Pos}, Fm (lawEnv w L fa cd) s₀ W' m' cm' s' → m' "runs" = some vru → m' "k" = some vk → Kp (Vw W s5.heap) (Vw W' s'.heap) → PE prog w W' A (lawEnv w L fa cd) s' (.Subscript (.Name "runs" p1) (.Name "k" p2) p3) (FL .str (r.map abc)) := fun {_ _ _ _ _ _ _} F' a1 a2 kv =>
    pe_sub (pe_name (ld_local F' (x := "runs") a1 (VP.mono _ kv y2))) (pe_name (ld_local F' (x := "k") a2 (VP.mono _ kv y0))) (sub_list g2 (by omega))
  -- if
  refine st_if F5 (b := false) (pt_or (b := false) (c := false) ?_ ?_) (fun hb => nomatch hb) (fun _ s6 F6 k6 => wpAny_execs_nil ?_)
  · refine pt_cmp (pe_name (ld_local F5 (x := "told") rfl to5)) (pe_call_def (o := _) (fd := _) (P := TpV [FL one1 (dueL (r.map abc) (r'.map abc)), FL one1 (dueR (r.map abc) (r'.map abc))]) (pe_global (v := .ref 225) (W5.mono (vw_kp _ _)) rfl) ((W5.mono (vw_kp _ _)).inK 225 _ rfl) rfl (pes_cons ((pe_alone (R.less (by decide)) (W5.mono (vw_kp _ _)) (runK F5 (by show m _ = _; exact e2) (by show m _ = _; exact e0) (Kp.refl _)) (by rw [List.length_map]; omega) (pe_global (v := .ref 220) (W5.mono (vw_kp _ _)) rfl)).sub fun v h hv => LsF.toLs hv) (pes_cons ((pe_alone (R.less (by decide)) (W5.mono (vw_kp _ _)) (pe_sub (P2 := D (.int ((1 - i : Nat) : Int))) (pe_name (ld_local F5 (x := "runs") (by show m _ = _; exact e2) y2)) (pe_bin (pe_nat (i := 1)) (pe_name (ld_local F5 (x := "k") (by show m _ = _; exact e0) y0)) (op_subN hi)) (sub_list g2' (by omega))) (by rw [List.length_map]; omega) (pe_global (v := .ref 220) (W5.mono (vw_kp _ _)) rfl)).sub fun v h hv => LsF.toLs hv) pes_nil)) (fun vs s k h => ?_)) (fun a b s ha hb => op_ne_twoF tells_one (n := 1) (fun x h => good_one h) (by decide) hdL hdR R.un a b s ha hb)
    obtain ⟨⟩ | ⟨h1, h⟩ := h
    obtain ⟨⟩ | ⟨h2, h⟩ := h
    cases h
    exact due_ok tells_one (R.less (by decide)) ((W5.mono (vw_mono (kps_kp k))).mono (vw_kp _ _)) h1 h2 (by rw [sizeLine_eq, List.length_map]; omega) (by rw [sizeLine_eq, List.length_map]; omega) (abcs_ok T.r3) (abcs_ok T.r3')
  · refine pt_cmp (P2 := TpV [FL one1 [], FL one1 (r.map abc)]) (pe_uldB (xs := []) (ys := r.map abc) tells_one (R.less (by decide)) W5 (fun s1 k1 => pe_listF pes_nil (by decide)) (fun a s2 k2 haW ha0 ⟨o, hao⟩ => ?_) rfl (by decide) (by rw [List.length_map]; omega) (fun x hx => nomatch hx) (abcs_ok T.r3) (pe_global (v := .ref 45) (W5.mono (vw_kp _ _)) rfl)) (pe_tuple (pes_cons (pe_list pes_nil (by decide)) (pes_cons ((pe_alone (R.less (by decide)) (W5.mono (vw_kp _ _)) (runK F5 (by show m _ = _; exact e2) (by show m _ = _; exact e0) (Kp.refl _)) (by rw [List.length_map]; omega) (pe_global (v := .ref 220) (W5.mono (vw_kp _ _)) rfl)).sub fun v h hv => LsF.toLs hv) pes_nil)) (show 2 ≤ sizeLine by decide)) (fun a b s ha hb => op_ne_twoF tells_one (n := 1) (fun x h => good_one h) (by decide) (xs := []) (fun x hx => nomatch hx) (abcs_ok T.r3) R.un a b s ha hb)
    have kv2 : Kp (Vw W s5.heap) (Vw (a :: W) s2.heap) := kv_hide (vw_mono (kps_kp k2)) ha0
    have F2 := (F5.keeps k2).hideMore (W' := a :: W) (fun c hc => .tail _ hc) ((F5.keeps k2).ok.cons hao)
    exact pe_alone (R.less (by decide)) ((W5.mono kv2).mono (vw_kp _ _)) (runK F2 (by show m _ = _; exact e2) (by show m _ = _; exact e0) kv2) (by rw [List.length_map]; omega) (pe_global (v := .ref 220) ((W5.mono kv2).mono (vw_kp _ _)) rfl)
  have kv6 := vw_mono (W := W) (kps_kp k6)
  have kx6 := kb_trans kx5 (kb_of k6)
  have to6 := VP.mono _ kv6 to5
  rw [T.later] at to6
  have hO0 : ∀ c ∈ O, s₀.heap.get? c = none := fun c hc => F.off c (hO ▸ hc)
  have hOo : ∀ c ∈ own (lawEnv w L fa cd), c ∈ O := fun c hc => hO ▸ hc
  have hkO : lk ∉ O := fun z => hko (hO ▸ z)
  have hrO : lr ∉ O := fun z => hro (hO ▸ z)
  have Mk6 := Mk5.mono (kps_kp k6)
  have Mr6 := Mr5.mono (kps_kp k6)
  have W6 := W5.mono kv6
  have hlt6 : lt.length ≤ 6 := by have := T.ll; omega
  -- later
  refine st_lc0 (F6.rebase (X := O) hOo) lt (Pit := FL one1 (lt.map abc)) (Pf := fun x => D (one1 (abc x))) (Po := fun x => D (.str (abc x))) (pe_sub (pe_name (ld_local F6 (x := "told") rfl to6)) (pe_nat (i := 1)) (sub_tuple rfl (by decide))) (fun v s' _ h => by
    have := src_list (prog := prog) (w := w) R.hd h
    rw [List.map_map] at this
    exact this) (by rw [sizeLine_eq]; omega) (fun x hx W2 C s' k kv' ok hld => pe_sub (pe_name hld) (pe_nat (i := 0)) (sub_listD rfl (by decide))) fun vl s7 F7' kv7 hl7 => ?_
  have k7 : KB O s6 s7 := F7'.done
  have F7 := F6.back F7' hO0
  have hl7' : (FL .str (lt.map abc)).p vl (Vw W s7.heap) := by
    show (LsV ((lt.map abc).map fun x => D (.str x))).p _ _
    rw [List.map_map]
    exact hl7
  have kx7 := kb_add kx6 k7 fun c hc => .inl (.tail _ hc)
  have Mk7 := Mk6.kb' k7 hkO hOW
  have Mr7 := Mr6.kb' k7 hrO hOW
  have W7 := W6.mono kv7
  have kv57 := kv6.trans kv7
  clear F7' hl7 to5 to6 Mk5 Mr5 Mk6 Mr6 kv6 kv7 kx5 kx6
  obtain ⟨G1, G2⟩ := goGo_ok (tk := tk) (bs := bs) T.r3 C.sdok C.sl T.bsok r.length (Nat.le_refl _)
  obtain ⟨G3, G4⟩ := goGo_ok (tk := tk) (bs := goGo tk sd r bs r.length) T.l3 C.sdok C.sl G1 lt.length (Nat.le_refl _)
  have hbl := T.bl
  have endK : ∀ {W' : List Addr} {m' cm'} {s' : Shared} {p1 p2 p3 : Pos}, Fm (lawEnv w L fa cd) s₀ W' m' cm' s' → cm' "ends" = some ve → m' "k" = some vk → Kp (Vw W s5.heap) (Vw W' s'.heap) → PE prog w W' A (lawEnv w L fa cd) s' (.Subscript (.Name "ends" p1) (.Name "k" p2) p3) (HdI lk) := fun {_ _ _ _ _ _ _} F' a1 a2 kv =>
    pe_sub (pe_name (ld_cell F' (x := "ends") rfl a1 (VP.mono _ kv y6))) (pe_name (ld_local F' (x := "k") a2 (VP.mono _ kv y0))) (sub_list g6 (by omega))
  -- go
  refine st_ifNotAnd fun E' => ?_
  refine wp_callD (Ps := [HdI lr, HdI lk, FL .str (r.map abc), HandsV prog w sd]) F7.ok (pe_global (v := .ref 230) (W7.mono (vw_kp _ _)) rfl) ((W7.mono (vw_kp _ _)).inK 230 _ rfl) rfl
    (pes_cons (pe_name (ld_local F7 (x := "rules") (by show m _ = _; exact e1) (VP.mono _ kv57 y1))) (pes_cons (endK F7 e6 (by show m _ = _; exact e0) kv57) (pes_cons (runK F7 (by show m _ = _; exact e2) (by show m _ = _; exact e0) kv57) (pes_cons (pe_name (ld_cell F7 (x := "sends") rfl e4 (VP.mono _ kv57 y4))) pes_nil)))) fun vs8 s8 k8 hvs => ?_
  obtain ⟨⟩ | ⟨h1, hvs⟩ := hvs
  obtain ⟨⟩ | ⟨h2, hvs⟩ := hvs
  obtain ⟨⟩ | ⟨h3, hvs⟩ := hvs
  obtain ⟨⟩ | ⟨h4, hvs⟩ := hvs
  cases hvs
  have kv8 := vw_mono (W := W) (kps_kp k8)
  refine go_ok (tk := tk) (R.less (by decide)) (W7.mono kv8) h1 h2 h3 h4 hlr hlk hrk (Mr7.mono (kps_kp k8)) (Mk7.mono (kps_kp k8)) RO T.bsok (by omega) hr4 T.r3 C.sdok C.sl C.tkok C.tl T.go1 (F7.ok.mono (kps_kp k8)) _ _ fun u9 s9 k9 ok9 ⟨hu9, Mk9⟩ => ⟨hu9, ?_⟩
  have F9 := (F7.keeps k8).kb k9 ok9 (hide1 hko hBk)
  have kv9' : Kp (Vw W s7.heap) (Vw W s9.heap) := kv8.trans (kb_vw (in1 hlk) k9)
  have kv9 := kv57.trans kv9'
  have W9 := W7.mono kv9'
  have Mr9 := (Mr7.mono (kps_kp k8)).kb' k9 (nin1 hrk) (in1 hlk)
  have kx9 := kb_add (kb_trans kx7 (kb_of k8)) k9 fun c hc => .inl (by rw [List.mem_singleton.mp hc]; exact .head _)
  refine wp_callD (Ps := [HdI lr, HdI lk, FL .str (lt.map abc), HandsV prog w sd]) F9.ok (pe_global (v := .ref 230) (W9.mono (vw_kp _ _)) rfl) ((W9.mono (vw_kp _ _)).inK 230 _ rfl) rfl
    (pes_cons (pe_name (ld_local F9 (x := "rules") (by show m _ = _; exact e1) (VP.mono _ kv9 y1))) (pes_cons (endK F9 e6 (by show m _ = _; exact e0) kv9) (pes_cons (pe_name (ld_local F9 (x := "later") rfl (VP.mono _ kv9' hl7'))) (pes_cons (pe_name (ld_cell F9 (x := "sends") rfl e4 (VP.mono _ kv9 y4))) pes_nil)))) fun vs10 s10 k10 hvs => ?_
  clear h1 h2 h3 h4
  obtain ⟨⟩ | ⟨h1, hvs⟩ := hvs
  obtain ⟨⟩ | ⟨h2, hvs⟩ := hvs
  obtain ⟨⟩ | ⟨h3, hvs⟩ := hvs
  obtain ⟨⟩ | ⟨h4, hvs⟩ := hvs
  cases hvs
  have kv10 := vw_mono (W := W) (kps_kp k10)
  refine go_ok (tk := tk) (R.less (by decide)) (W9.mono kv10) h1 h2 h3 h4 hlr hlk hrk (Mr9.mono (kps_kp k10)) (Mk9.mono (kps_kp k10)) RO G1 (by omega) hlt6 T.l3 C.sdok C.sl C.tkok C.tl T.go2 (F9.ok.mono (kps_kp k10)) _ _ fun u11 s11 k11 ok11 ⟨hu11, Mk11⟩ => ⟨hu11, ?_⟩
  rw [← T.beq] at Mk11 G3 G4
  have F11 := (F9.keeps k10).kb k11 ok11 (hide1 hko hBk)
  have kv11' : Kp (Vw W s9.heap) (Vw W s11.heap) := kv10.trans (kb_vw (in1 hlk) k11)
  have kv11 := kv9.trans kv11'
  have W11 := W9.mono kv11'
  have Mr11 := (Mr9.mono (kps_kp k10)).kb' k11 (nin1 hrk) (in1 hlk)
  have kx11 := kb_add (kb_trans kx9 (kb_of k10)) k11 fun c hc => .inl (by rw [List.mem_singleton.mp hc]; exact .head _)
  have hl11 := VP.mono _ (kv9'.trans kv11') hl7'
  clear h1 h2 h3 h4 Mk7 Mr7 Mk9 Mr9 kv8 kv9' kv10 kx7 kx9 hl7' W7 W9 kv9 kv57 kv11'
  -- row
  have hcO : ∀ {n c}, (lawEnv w L fa cd).cells.lookup n = some c → c ∈ O := fun h => hO ▸ mem_own_cell h
  refine st_cellK F11 (P := FL .str ((r ++ lt).map abc)) ((pe_bin (runK F11 (by show m _ = _; exact e2) (by show m _ = _; exact e0) kv11) (pe_name (ld_local F11 (x := "later") rfl hl11)) (op_add_list (by rw [List.length_map, List.length_map, List.length_map, List.length_map, sizeLine_eq]; omega))).sub fun v h hv => by
    show (LsV (((r ++ lt).map abc).map fun x => D (.str x))).p _ _
    rw [List.map_append, List.map_append]
    exact hv) rfl fun vro s12 F12 k12 hro12 => ?_
  have hc12 := hcO (n := "row") rfl
  have kv12' : Kp (Vw W s11.heap) (Vw W s12.heap) := kb_vw (in1 (hOW _ hc12)) k12
  have kv12 := kv11.trans kv12'
  have W12 := W11.mono kv12'
  have kx12 := kb_add kx11 k12 fun c hc => .inl (by rw [List.mem_singleton.mp hc]; exact .tail _ hc12)
  have Mk12 := Mk11.kb' k12 (nin1 fun z => hkO (z ▸ hc12)) (in1 (hOW _ hc12))
  have Mr12 := Mr11.kb' k12 (nin1 fun z => hrO (z ▸ hc12)) (in1 (hOW _ hc12))
  have hrow3 : ∀ x ∈ r ++ lt, x < 3 := fun x hx => (List.mem_append.mp hx).elim (T.r3 x) (T.l3 x)
  have hrowl : (r ++ lt).length ≤ 6 := by have := T.rl; have := T.ll; rw [List.length_append]; omega
  -- due
  refine st_lc0 (F12.rebase (X := O) hOo) (List.range 3) (Pit := D (.str "abc")) (Pf := fun h => D (.str (abc h))) (Po := fun h => FL .str (boxOf tk sd first (r ++ lt) h)) pe_str (fun v s' _ hv => by rw [← signs_abc]; exact srcs_str R.hd hv) (by decide) (fun h hh W2 C' s' k kv' ok hld => ?_) fun vdu s13 F13' kv13' hdu => ?_
  · have hh := List.mem_range.mp hh
    have W' := (W12.mono kv').mono (vw_kp _ _)
    refine pe_call_def (pe_global (v := .ref 210) W' rfl) (W'.inK 210 _ rfl) rfl (pes_cons (pe_name (ld_free F12 k kv' (x := "world") rfl e5 (VP.mono _ kv12 y5))) (pes_cons (pe_name (ld_free F12 k kv' (x := "row") rfl rfl hro12)) (pes_cons (pe_name hld) pes_nil))) (fun vs s k h' => ?_)
    obtain ⟨⟩ | ⟨h1, h'⟩ := h'
    obtain ⟨⟩ | ⟨h2, h'⟩ := h'
    obtain ⟨⟩ | ⟨h3, h'⟩ := h'
    cases h'
    exact box_ok (R.less (by decide)) (W'.mono (kps_kp k)) h1 h2 h3 hh hrow3 C.sdok C.fi (fun k hk x hx => (xy_facts (C.tkok k hk x hx)).1) C.fl C.sl hrowl C.tl
  have k13 : KB O s12 s13 := F13'.done
  have F13 := F12.back F13' hO0
  have kv13 := kv12.trans kv13'
  have W13 := W12.mono kv13'
  have kx13 := kb_add kx12 k13 fun c hc => .inl (.tail _ hc)
  have Mk13 := Mk12.kb' k13 hkO hOW
  have Mr13 := Mr12.kb' k13 hrO hOW
  clear F13' kv12 kv12' kv13' kv11 Mk11 Mr11 Mk12 Mr12 hl11 hro12 kx11 kx12 W11 W12
  have hsizes : ∀ h, h < 3 → (boxOf tk sd first (r ++ lt) h).length ≤ 40 := fun h hh => by
    rw [← T.box h hh]
    have := (inBox_ok (h := h) G3).2
    omega
  -- if len
  refine st_if F13 (b := false) (pt_cmp (P1 := D (.int (be.length : Nat))) (P2 := D (.int (((List.range 3).map fun h => ((boxOf tk sd first (r ++ lt) h).length : Int)).sum))) (pe_call_builtin (Ps := [HdI lk]) (pe_built (W13.mono (vw_kp _ _)) rfl boot_len) (pes_cons (endK F13 e6 (by show m _ = _; exact e0) kv13) pes_nil) (fun vs s k h => ?_)) (pe_call_builtin (Ps := [LsV (((List.range 3).map fun h => ((boxOf tk sd first (r ++ lt) h).length : Int)).map fun n => D (.int n))]) (pe_built (W13.mono (vw_kp _ _)) rfl Mine.boot_sum) (pes_cons ?_ pes_nil) (fun vs s k h => call_sum R.hd vs s h)) (fun a b s ha hb => ?_)) (fun hb => nomatch hb) (fun _ s14 F14 k14 => wpAny_execs_nil ?_)
  · obtain ⟨⟩ | ⟨h1, h⟩ := h
    cases h
    exact ev_lenH (R.less (by decide)) (W13.mono (vw_mono (kps_kp k))) h1 (Mk13.mono (kps_kp k)) (by omega) (((U5.mono kv13).mono (vw_mono (kps_kp k))).mono (vw_kp _ _)) (F13.keeps k).ns
  · rw [List.map_map]
    refine pe_lc0 (List.range 3) (Pit := LsV ((List.range 3).map fun h => FL .str (boxOf tk sd first (r ++ lt) h))) (Pf := fun h => FL .str (boxOf tk sd first (r ++ lt) h)) (Po := fun h => D (.int ((boxOf tk sd first (r ++ lt) h).length : Int))) (pe_name (ld_local F13 (x := "due") rfl hdu)) (fun v s' _ h => src_list R.hd h) (by decide) (fun h hh W2 C' s' k kv' ok hld => ?_)
    have := hsizes h (List.mem_range.mp hh)
    refine pe_call_builtin (Ps := [FL .str (boxOf tk sd first (r ++ lt) h)]) (pe_built ((W13.mono kv').mono (vw_kp _ _)) rfl boot_len) (pes_cons (pe_name hld) pes_nil) (fun vs s k h => call_len' (by rw [sizeLine_eq]; omega) vs s h)
  · have q := op_ne_int (prog := prog) (w := w) R.un a b s ha hb
    have e : ((be.length : Nat) : Int) = (((List.range 3).map fun h => ((boxOf tk sd first (r ++ lt) h).length : Int)).sum) := by
      rw [T.len]
      simp [List.range_succ]
    rw [← e] at q
    simpa using q
  have kv14' := vw_mono (W := W) (kps_kp k14)
  have kv14 := kv13.trans kv14'
  have W14 := W13.mono kv14'
  have Mk14 := Mk13.mono (kps_kp k14)
  have Mr14 := Mr13.mono (kps_kp k14)
  have kx14 := kb_trans kx13 (kb_of k14)
  have hdu14 := VP.mono _ kv14' hdu
  clear Mk13 Mr13 hdu kx13 kv13 W13
  -- for j
  refine st_for F14 (List.range 3) O (Pit := RangeV 0 (3 : Nat) 1) (Pf := fun i : Nat => D (.int (i : Int)))
    (fun j m cm h => (m "rules" = some vr ∧ m "runs" = some vru ∧ m "k" = some vk ∧ m "due" = some vdu) ∧ (cm "takes" = some vt ∧ cm "sends" = some vs ∧ cm "world" = some vw ∧ cm "ends" = some ve))
    (fun _ _ _ _ _ a _ => a) (fun _ _ _ _ _ c hc => .inl (hO ▸ hc)) hOo hOW hO0
    (pe_call_type (pe_built (W14.mono (vw_kp _ _)) rfl boot_range) (pes_cons (pe_nat (i := 3)) pes_nil) (fun vs s k h => call_upto vs s h)) (fun v s' _ h => srcx_upto hOW R.hd (by decide) h) ⟨⟨by show m _ = _; exact e1, by show m _ = _; exact e2, by show m _ = _; exact e0, rfl⟩, e3, e4, e5, e6⟩ ?_ ?_
  · intro j y hy I s15 m15 cm15 v15 hIW hI0 F15 ⟨⟨p1, p2, p3, p4⟩, q1, q2, q3, q4⟩ hv15 kv15' kx15 E15
    obtain ⟨hj, hjy⟩ : j < 3 ∧ j = y := by
      obtain ⟨h1, h2⟩ := List.getElem?_eq_some_iff.mp hy
      rw [List.getElem_range] at h2
      rw [List.length_range] at h1
      exact ⟨h1, h2⟩
    subst hjy
    have kv15 := kv14.trans kv15'
    have W15 := W14.mono kv15'
    have Mk15 : Mu (I :: W) lk (be.map pairV) s15.heap := Mk14.go (fun o q => Heap.of_hide (kx15 _ _ (vw_to q hkO))) kv15'
    have Mr15 : Mu (I :: W) lr (rs.map pairV) s15.heap := Mr14.go (fun o q => Heap.of_hide (kx15 _ _ (vw_to q hrO))) kv15'
    have hOI : ∀ c ∈ O, c ∈ I :: W := fun c hc => .tail _ (hOW c hc)
    have hLI : ∀ c ∈ [L], c ∈ I :: W := in1 (hOI _ hLO)
    refine wpAny_assign_Name (store_local F15 (fun s16 F16 k16 => ?_) rfl)
    have kv16' : Kp (Vw (I :: W) s15.heap) (Vw (I :: W) s16.heap) := kb_vw hLI k16
    have kv16 := kv15.trans kv16'
    have j16 := VP.mono _ kv16' hv15
    have du16 := VP.mono _ (kv15'.trans kv16') hdu14
    have W16 := W15.mono kv16'
    have Mk16 := Mk15.kb' k16 (nin1 hlL) hLI
    have Mr16 := Mr15.kb' k16 (nin1 hrL) hLI
    have hIL : I ≠ L := fun z => hIW (z ▸ hLW)
    have hnm : Txt.lower (aBC j) = abc j ∧ aBC j ∈ names6 ∧ j < ("ABC" : Str).cps.size ∧ j < ("abc" : Str).cps.size := by
      have : j = 0 ∨ j = 1 ∨ j = 2 := by omega
      rcases this with rfl | rfl | rfl <;> decide +kernel
    obtain ⟨X1, X2⟩ := inBox_ok (h := j) G3
    -- wants, waits
    refine st_swap2 (Ps1 := (tk j).map fun x => D (.str x)) (Ps2 := (inBox be j).map fun x => D (.str x)) R.hd F16
      (pe_getL (nm := aBC j) (R.less (by decide)) W16 (pe_name (ld_local F16 (x := "rules") (by show m15 _ = _; exact p1) (VP.mono _ kv16 y1))) (pe_sub pe_str (pe_name (ld_local F16 (x := "j") rfl j16)) (sub_str hnm.2.2.1 (by omega))) Mr16 (nameable6 _ hnm.2.1) RO.fine RO.len hnm.1 (RO.tk j hj)) (fun a s2 k2 M haW ha0 => ?_) fun a b s17 F17 k17 ha0 hb0 haW hbW hab Ma Mb => ?_
    · have kv2 : Kp (Vw (I :: W) s16.heap) (Vw (a :: I :: W) s2.heap) := kv_hide (vw_mono (kps_kp k2)) ha0
      have F2 := (F16.keeps k2).hide M
      exact pe_getL (nm := aBC j) (R.less (by decide)) (W16.mono kv2) (pe_sub (pe_name (ld_cell F2 (x := "ends") rfl q4 (VP.mono _ (kv16.trans kv2) y6))) (pe_name (ld_local F2 (x := "k") (by show m15 _ = _; exact p3) (VP.mono _ (kv16.trans kv2) y0))) (sub_list g6 (by omega))) (pe_sub pe_str (pe_name (ld_local F2 (x := "j") rfl (VP.mono _ kv2 j16))) (sub_str hnm.2.2.1 (by omega))) (Mk16.go (fun o => kps_kp k2 _ o) kv2) (nameable6 _ hnm.2.1) (fun p hp => (G3 p hp).facts.fine) (by omega) hnm.1 rfl
    have hs2 : ∀ c ∈ I :: W, c ∈ b :: a :: I :: W := fun c hc => .tail _ (.tail _ hc)
    have hbW' : b ∉ I :: W := fun z => hbW (.tail _ z)
    have haL : a ≠ L := fun z => haW (z ▸ hOI _ hLO)
    have hbL : b ≠ L := fun z => hbW' (z ▸ hOI _ hLO)
    have haO : a ∉ O := fun z => haW (hOI _ z)
    have hbO : b ∉ O := fun z => hbW' (hOI _ z)
    have kv17' : Kp (Vw (I :: W) s16.heap) (Vw (b :: a :: I :: W) s17.heap) := fun c o e => vw_to (kb_vw hLI k17 c o e |> fun z => (vw_of z).1) fun z => by
      rcases List.mem_cons.mp z with rfl | z
      · rw [(vw_of e).1] at hb0; cases hb0
      · rcases List.mem_cons.mp z with rfl | z
        · rw [(vw_of e).1] at ha0; cases ha0
        · exact (vw_of e).2 z
    have F17u := F17.hideLess (W' := I :: W) hs2 F15.own
    have kv17 := kv17'.trans (vw_sub (h := s17.heap) hs2)
    have W17 := W16.mono kv17
    have wa17 : (FL .str (inBox be j)).p (.ref b) (Vw (I :: W) s17.heap) := Mb.see hs2 hbW'
    have j17 := VP.mono _ kv17 j16
    have du17 := VP.mono _ kv17 du16
    rw [T.box j hj] at wa17 Mb X1 X2
    have hduj : ((List.range 3).map fun h => FL .str (boxOf tk sd first (r ++ lt) h))[j]? = some (FL .str (boxOf tk sd first (r ++ lt) j)) := by simp [hj]
    have hxb : ∀ x ∈ boxOf tk sd first (r ++ lt) j, PyData.strOk x = true := fun x hx => (xy_facts (X1 x hx)).1
    have hxt : ∀ x ∈ tk j, PyData.strOk x = true := fun x hx => (xy_facts (C.tkok j hj x hx)).1
    have htl := C.tl j hj
    -- if waits
    refine st_if F17u (b := false) (pt_cmp (P1 := FL .str (boxOf tk sd first (r ++ lt) j)) (P2 := FL .str (boxOf tk sd first (r ++ lt) j)) (pe_name (ld_local F17u (x := "waits") rfl wa17)) (pe_sub (pe_name (ld_local F17u (x := "due") (by show m15 _ = _; exact p4) du17)) (pe_name (ld_local F17u (x := "j") rfl j17)) (sub_list hduj (by omega))) (fun a b s ha hb => ?_)) (fun hb => nomatch hb) (fun _ s18 F18u k18 => wpAny_execs_nil ?_)
    · have := op_ne_ls (prog := prog) (w := w) (A := A) (W := I :: W) (n := 0) tells_str.eqv (fun x hx => good_str (hxb x hx)) (fun x hx => good_str (hxb x hx)) (by decide) R.un a b s ha hb
      simpa using this
    have kv18 := vw_mono (W := b :: a :: I :: W) (kps_kp k18)
    have kv18u := vw_mono (W := I :: W) (kps_kp k18)
    have F18 : Fm (lawEnv w L fa cd) _ (b :: a :: I :: W) _ _ s18 := F17.keeps k18
    have W18 : Wd (KK w) mg mb (Vw (b :: a :: I :: W) s18.heap) := W16.mono (kv17'.trans kv18)
    have Ma18 := Ma.mono (kps_kp k18)
    have Mb18 := Mb.mono (kps_kp k18)
    have S18 : Stk A [lawEnv w L fa cd] s18.heap := ⟨hA, fun en hen => by
      rw [List.mem_singleton.mp hen]
      obtain ⟨o, es, n, q, hd, _⟩ := F18.ns
      exact ⟨by rw [F18.fn]; decide, L, o, rfl, q, fun vs z => by rw [hd] at z; cases z⟩⟩
    -- lacks
    refine st_assign (wp_callD (Ps := [Is (.ref a), Is (.ref b)]) F18.ok (pe_global (v := .ref 45) (W18.mono (vw_kp _ _)) rfl) ((W18.mono (vw_kp _ _)).inK 45 _ rfl) rfl (pes_cons (pe_name (ld_local F18 (x := "wants") rfl rfl)) (pes_cons (pe_name (ld_local F18 (x := "waits") rfl rfl)) pes_nil)) fun vs' s19 k19 hvs' => ?_)
    obtain ⟨⟩ | ⟨hx1, hvs'⟩ := hvs'
    obtain ⟨⟩ | ⟨hx2, hvs'⟩ := hvs'
    cases hvs'
    rw [show _ = Value.ref a from hx1, show _ = Value.ref b from hx2]
    have kv19 := vw_mono (W := b :: a :: I :: W) (kps_kp k19)
    have S19 : Stk A [lawEnv w L fa cd] s19.heap := ⟨hA, fun en hen => by
      obtain ⟨h1, L', o, h2, h3, h4⟩ := S18.2 en hen
      exact ⟨h1, L', o, h2, kps_kp k19 _ _ h3, h4⟩⟩
    refine uld_ok (prog := prog) (w := w) tells_str (fs := [L]) (R.less (by decide)) (W18.mono kv19) (in1 (hs2 _ (hOI _ hLO))) (.tail _ (.head _)) (.head _) hab (nin1 haL) (nin1 hbL) (Ma18.mono (kps_kp k19)) (Mb18.mono (kps_kp k19)) (by rw [sizeLine_eq]; omega) (by rw [sizeLine_eq]; omega) hxt hxb (fun _ => ⟨_, hfs.symm, S19⟩) (F18.ok.mono (kps_kp k19)) _ _ fun vd2 s20 k20 ok20 ⟨hto2, Ma20, Mb20, fu20⟩ => ?_
    rw [hdue] at hto2 Mb20
    dsimp only at hto2 Mb20
    have hM20 : ∀ c ∈ [a, b, L], c ∈ b :: a :: I :: W := fun c hc => by
      rcases List.mem_cons.mp hc with rfl | hc
      · exact .tail _ (.head _)
      · rcases List.mem_cons.mp hc with rfl | hc
        · exact .head _
        · rw [List.mem_singleton.mp hc]; exact hs2 _ (hOI _ hLO)
    have hB15 : ∀ c, s16.heap.get? c = none → (Vw O s15.heap).get? c = none := fun c hc => none_of F16.keep hc
    have F20 := ((F18.keeps k19).upM (M := [a, b]) (fs := [L]) k20 fu20 ok20 (fun c hc => by
      rcases List.mem_cons.mp hc with rfl | hc
      · exact ⟨by rw [← hO]; exact haO, hB15 _ ha0⟩
      · rw [List.mem_singleton.mp hc]
        exact ⟨by rw [← hO]; exact hbO, hB15 _ hb0⟩) (fun c hc => by rw [List.mem_singleton.mp hc]; exact hideAll_none _ hLO)).hideLess (W' := I :: W) hs2 F15.own
    have kv20 : Kp (Vw (I :: W) s16.heap) (Vw (I :: W) s20.heap) := (((kv17'.trans kv18).trans kv19).trans (kb_vw hM20 k20)).trans (vw_sub hs2)
    have ls20 : (FL .str []).p (.ref a) (Vw (I :: W) s20.heap) := Ma20.see hs2 haW
    have lb20 : (FL .str (dueR (tk j) (boxOf tk sd first (r ++ lt) j))).p (.ref b) (Vw (I :: W) s20.heap) := Mb20.see hs2 hbW'
    have to20 : (TpV [FL .str (dueL (tk j) (boxOf tk sd first (r ++ lt) j)), Is (.ref b)]).p vd2 (Vw (I :: W) s20.heap) := TpV.two (VP.mono _ (vw_sub hs2) hto2) (fun u hu => LsF.toLs hu) fun u hu => hu
    have hdL2 : ∀ x ∈ dueL (tk j) (boxOf tk sd first (r ++ lt) j), PyData.strOk x = true := fun x hx => by
      have := uldGo_sub1 (tk j).reverse [] (boxOf tk sd first (r ++ lt) j) x (by rw [hdue]; exact hx)
      rcases this with z | z
      · cases z
      · exact hxt x (List.mem_reverse.mp z)
    have hdR2 : ∀ x ∈ dueR (tk j) (boxOf tk sd first (r ++ lt) j), PyData.strOk x = true := fun x hx => by
      have := uldGo_sub (tk j).reverse [] (boxOf tk sd first (r ++ lt) j) x (by rw [hdue]; exact hx)
      exact hxb x this
    refine store_local F20 (fun s21 F21 k21 => ?_) rfl
    have kv21' : Kp (Vw (I :: W) s20.heap) (Vw (I :: W) s21.heap) := kb_vw hLI k21
    have kv21 := kv20.trans kv21'
    have ls21 := VP.mono _ kv21' ls20
    have lb21 := VP.mono _ kv21' lb20
    have to21 := VP.mono _ kv21' to20
    have j21 := VP.mono _ kv21 j16
    have du21 := VP.mono _ kv21 du16
    have t21 := VP.mono _ (kv16.trans kv21) y3
    have W21 := W16.mono kv21
    refine st_if F21 (b := false) (pt_or3 (a := false) (b := false) (c := false) ?_ ?_ ?_) (fun hb => nomatch hb) (fun _ s22 F22 k22 => wpAny_execs_nil (wpAny_execs_nil ?_))
    · refine pt_cmp (P1 := TpV [FL .str (dueL (tk j) (boxOf tk sd first (r ++ lt) j)), FL .str (dueR (tk j) (boxOf tk sd first (r ++ lt) j))]) (pe_name (ld_local F21 (x := "lacks") rfl (TpV.two to21 (fun u hu => hu) fun u hu => by rw [show u = .ref b from hu]; exact lb21))) (pe_call_def (P := TpV [FL .str (dueL (tk j) (boxOf tk sd first (r ++ lt) j)), FL .str (dueR (tk j) (boxOf tk sd first (r ++ lt) j))]) (pe_global (v := .ref 225) (W21.mono (vw_kp _ _)) rfl) ((W21.mono (vw_kp _ _)).inK 225 _ rfl) rfl (pes_cons (P := FL .str (tk j)) (pe_sub (pe_name (ld_cell F21 (x := "takes") rfl q1 t21)) (pe_sub (P := D (.str (abc j))) pe_str (pe_name (ld_local F21 (x := "j") rfl j21)) (sub_str hnm.2.2.2 (by omega))) (sub_dict (find_abc (fun k => FL .str (tk k)) hj))) (pes_cons (pe_sub (pe_name (ld_local F21 (x := "due") (by show m15 _ = _; exact p4) du21)) (pe_name (ld_local F21 (x := "j") rfl j21)) (sub_list hduj (by omega))) pes_nil)) (fun vs s k h => ?_)) (fun a b s ha hb => op_ne_twoF tells_str (n := 0) (fun x h => good_str h) (by decide) hdL2 hdR2 R.un a b s ha hb)
      obtain ⟨⟩ | ⟨h1, h⟩ := h
      obtain ⟨⟩ | ⟨h2, h⟩ := h
      cases h
      exact due_ok tells_str (R.less (by decide)) ((W21.mono (vw_mono (kps_kp k))).mono (vw_kp _ _)) h1 h2 (by rw [sizeLine_eq]; omega) (by rw [sizeLine_eq]; omega) hxt hxb
    · exact pt_isNot (pe_sub (pe_name (ld_local F21 (x := "lacks") rfl to21)) (pe_nat (i := 1)) (sub_tuple rfl (by decide))) (pe_name (ld_local F21 (x := "waits") rfl rfl))
    · exact pt_cmp (P1 := FL .str []) (P2 := FL .str []) (pe_name (ld_local F21 (x := "wants") rfl ls21)) (pe_list pes_nil (by decide)) (fun a b s ha hb => op_ne_ls (xs := ([] : List Str)) (ys := []) tells_str.eqv (by intro x hx; cases hx) (by intro x hx; cases hx) (n := 0) (by decide) R.un a b s ha hb)
    exact ⟨.inl rfl, _, _, F22, ⟨by show m15 _ = _; exact p1, by show m15 _ = _; exact p2, by show m15 _ = _; exact p3, by show m15 _ = _; exact p4⟩, q1, q2, q3, q4⟩
  · rintro m15 cm15 s15 F15 ⟨⟨p1, p2, p3, p4⟩, q1, q2, q3, q4⟩ kx15
    refine wpAny_execs_nil ⟨.inl rfl, m15, cm15, F15, ⟨p1, p2⟩, ⟨q1, q2, q3, q4⟩, ?_, Mk14.kb' kx15 hkO hOW⟩
    rw [← hO]
    exact kb_add kx14 kx15 fun c hc => .inl (.tail _ hc)
end
end Mine
set_option maxRecDepth 100000
set_option maxHeartbeats 1000000
set_option linter.unusedVariables false
namespace Mine
open PySem PySem.Spec PySem.Calls PyProof.Rows PySem.W PySem.MeetsSeq
section
variable {prog : Program} {w : World} {W : List Addr} {A : Around} {s₀ s : Shared} {mg mb : Str → Option Value} {m cm : Str → Option Value} {L fa lr l0 l1 : Addr} {cd vr vs ve vru vt vw : Value} {tk sd : Nat → List Str} {rs bs be0 be1 : List (Str × Str)} {first : List Str} {r0 r1 lt0 lt1 : List Nat}
theorem law3 (hdue : ∀ xs ys : List Str, uldGo xs.reverse [] ys = (dueL xs ys, dueR xs ys)) (R : Room A 4) (hA : A.frames = some [lawEnv w L fa cd]) (F : Fm (lawEnv w L fa cd) s₀ W m cm s) (hWd : Wd (KK w) mg mb (Vw W s.heap))
    (e1 : m "rules" = some vr) (x1 : (HdI lr).p vr (Vw W s.heap)) (e2 : m "runs" = some vru) (x2 : (LsV [FL .str (r0.map abc), FL .str (r1.map abc)]).p vru (Vw W s.heap))
    (e3 : cm "takes" = some vt) (x3 : (HandsV prog w tk).p vt (Vw W s.heap)) (e4 : cm "sends" = some vs) (x4 : (HandsV prog w sd).p vs (Vw W s.heap)) (e5 : cm "world" = some vw) (x5 : (WorldV prog w tk sd first).p vw (Vw W s.heap)) (e6 : cm "ends" = some ve) (x6 : (LsV [HdI l0, HdI l1]).p ve (Vw W s.heap))
    (Mr : Mu W lr (rs.map pairV) s.heap) (N0 : Mu W l0 (bs.map pairV) s.heap) (N1 : Mu W l1 (bs.map pairV) s.heap) (hlr : lr ∈ W) (hl0 : l0 ∈ W) (hl1 : l1 ∈ W) (hr0 : lr ≠ l0) (hr1 : lr ≠ l1) (h01 : l0 ≠ l1) (hro : lr ∉ own (lawEnv w L fa cd)) (h0o : l0 ∉ own (lawEnv w L fa cd)) (h1o : l1 ∉ own (lawEnv w L fa cd))
    (hBr : s₀.heap.get? lr = none) (hB0 : s₀.heap.get? l0 = none) (hB1 : s₀.heap.get? l1 = none)
    (RO : RulesOk tk sd rs) (C : CellsOk tk sd first) (T0 : TurnOk tk sd first r0 r1 lt0 bs be0) (T1 : TurnOk tk sd first r1 r0 lt1 bs be1) (hbare : bareGo rs names6 = sentP sd)
    (hend : ∀ h, h < 3 → uldGo (inBox be0 h).reverse [] (inBox be1 h) = ([], [])) (U : Under w L (Vw W s.heap)) :
    wpAny (model prog w) A (execs ((lawB w).1.1.drop 7) (lawEnv w L fa cd)) (fun fl s' => fl = .ret (.bool true) ∧ Keeps s₀ s' ∧ ∃ m, s'.heap.Ns L m) (fun _ _ => False) s := by
  have turn := @law3_turn prog w
  have fin := @law4 prog w
  have hpb : (∀ p ∈ be0, PairOk p) ∧ be0.length ≤ 100 ∧ (∀ p ∈ be1, PairOk p) ∧ be1.length ≤ 100 := by
    have key : ∀ {r r' lt be}, TurnOk tk sd first r r' lt bs be → (∀ p ∈ be, PairOk p) ∧ be.length ≤ 100 := fun {r r' lt be} T => by
      obtain ⟨G1, G2⟩ := goGo_ok (tk := tk) (bs := bs) T.r3 C.sdok C.sl T.bsok r.length (Nat.le_refl _)
      obtain ⟨G3, G4⟩ := goGo_ok (tk := tk) (bs := goGo tk sd r bs r.length) T.l3 C.sdok C.sl G1 lt.length (Nat.le_refl _)
      rw [← T.beq] at G3 G4
      have := T.bl; have := T.rl; have := T.ll
      exact ⟨G3, by omega⟩
    exact ⟨(key T0).1, (key T0).2, (key T1).1, (key T1).2⟩
  unfold lawB
  dsimp only [List.drop]
  obtain ⟨O, hO⟩ : ∃ O, O = own (lawEnv w L fa cd) := ⟨_, rfl⟩
  have hOW : ∀ b ∈ O, b ∈ W := fun b hb => F.own b (hO ▸ hb)
  have hOo : ∀ c ∈ own (lawEnv w L fa cd), c ∈ O := fun c hc => hO ▸ hc
  have hLO : L ∈ O := hO ▸ .head _
  have hO0 : ∀ c ∈ O, s₀.heap.get? c = none := fun c hc => F.off c (hO ▸ hc)
  have hXW : ∀ c ∈ l0 :: l1 :: O, c ∈ W := in2 hl0 (in2 hl1 hOW)
  have hX0 : ∀ c ∈ l0 :: l1 :: O, s₀.heap.get? c = none := fun c hc => by
    rcases List.mem_cons.mp hc with rfl | hc
    · exact hB0
    · rcases List.mem_cons.mp hc with rfl | hc
      · exact hB1
      · exact hO0 _ hc
  have hrX : lr ∉ l0 :: l1 :: O := fun z => by
    rcases List.mem_cons.mp z with z | z
    · exact hr0 z
    · rcases List.mem_cons.mp z with z | z
      · exact hr1 z
      · exact hro (hO ▸ z)
  refine st_for F (List.range 2) (l0 :: l1 :: O) (Pit := RangeV 0 (2 : Nat) 1) (Pf := fun i : Nat => D (.int (i : Int)))
    (fun i m cm h => (m "rules" = some vr ∧ m "runs" = some vru) ∧ (cm "takes" = some vt ∧ cm "sends" = some vs ∧ cm "world" = some vw ∧ cm "ends" = some ve) ∧ Mu W l0 ((if 0 < i then be0 else bs).map pairV) h ∧ Mu W l1 ((if 1 < i then be1 else bs).map pairV) h)
    (fun _ _ _ _ _ ⟨a, b, c, d⟩ k => ⟨a, b, c.mono k, d.mono k⟩) (fun _ _ _ _ ⟨_, _, ⟨_, ⟨_, c⟩, _⟩, ⟨_, ⟨_, d⟩, _⟩⟩ b hb => by
      rcases List.mem_cons.mp hb with rfl | hb
      · exact .inr ⟨_, c⟩
      · rcases List.mem_cons.mp hb with rfl | hb
        · exact .inr ⟨_, d⟩
        · exact .inl (hO ▸ hb)) (fun b hb => .tail _ (.tail _ (hO ▸ hb))) hXW hX0
    (pe_call_type (pe_built (hWd.mono (vw_kp _ _)) rfl boot_range) (pes_cons (pe_nat (i := 2)) pes_nil) (fun vs s k h => call_upto vs s h)) (fun v s' _ h => srcx_upto hXW R.hd (by decide) h) ⟨⟨e1, e2⟩, ⟨e3, e4, e5, e6⟩, N0, N1⟩ ?_ ?_
  · intro i y hy I s5 m5 cm5 v5 hIW hI0 F5 ⟨⟨p1, p2⟩, ⟨q1, q2, q3, q4⟩, n0, n1⟩ hv5 kv5 kx5 E5
    obtain ⟨hi, hjy⟩ : i < 2 ∧ i = y := by
      obtain ⟨h1, h2⟩ := List.getElem?_eq_some_iff.mp hy
      rw [List.getElem_range] at h2
      rw [List.length_range] at h1
      exact ⟨h1, h2⟩
    subst hjy
    have hI0' : l0 ≠ I := fun z => hIW (z ▸ hl0)
    have hI1' : l1 ≠ I := fun z => hIW (z ▸ hl1)
    have hLI : ∀ c ∈ [L], c ∈ I :: W := in1 (.tail _ (hOW _ hLO))
    have hrL : lr ≠ L := fun z => hro (by rw [← hO, z]; exact hLO)
    have h0L : l0 ≠ L := fun z => h0o (by rw [← hO, z]; exact hLO)
    have h1L : l1 ≠ L := fun z => h1o (by rw [← hO, z]; exact hLO)
    refine wpAny_assign_Name (store_local F5 (fun s6 F6 k6 => ?_) rfl)
    have kv6' : Kp (Vw (I :: W) s5.heap) (Vw (I :: W) s6.heap) := kb_vw hLI k6
    have kv6 := kv5.trans kv6'
    have Mr6 : Mu (I :: W) lr (rs.map pairV) s6.heap := (Mr.go (fun o q => Heap.of_hide (kx5 _ _ (vw_to q hrX))) kv5).kb' k6 (nin1 hrL) hLI
    have n06 := (Mu.out n0).kb' k6 (nin1 h0L) hLI
    have n16 := (Mu.out n1).kb' k6 (nin1 h1L) hLI
    have W6 := hWd.mono kv6
    have z0 := VP.mono _ kv6' hv5
    have z1 := VP.mono _ kv6 x1
    have z2 := VP.mono _ kv6 x2
    have z3 := VP.mono _ kv6 x3
    have z4 := VP.mono _ kv6 x4
    have z5 := VP.mono _ kv6 x5
    have z6 := VP.mono _ kv6 x6
    have hi' : i = 0 ∨ i = 1 := by omega
    rcases hi' with rfl | rfl
    · refine wpAny_mono (turn (i := 0) (tk := tk) (first := first) hdue R hA F6 W6 rfl z0 (by show m5 _ = _; exact p1) z1 (by show m5 _ = _; exact p2) z2 rfl rfl q1 z3 q2 z4 q3 z5 q4 z6 rfl Mr6 n06 (.tail _ hlr) (.tail _ hl0) hr0 hro h0o (hideAll_none _ (.head _)) (by decide) RO C T0 (U.mono kv6)) (fun f s7 ⟨hf, m7, cm7, F7, a1, a2, k7, M7⟩ => ⟨hf, m7, cm7, F7, a1, a2, M7.hide hI0', ?_⟩) fun _ _ e => e
      exact (n16.kb' k7 (fun z => (List.mem_cons.mp z).elim (fun z => h01 z.symm) h1o) (in2 (.tail _ hl0) fun c hc => .tail _ (hOW c (hOo c hc)))).hide hI1'
    · refine wpAny_mono (turn (i := 1) (tk := tk) (first := first) hdue R hA F6 W6 rfl z0 (by show m5 _ = _; exact p1) z1 (by show m5 _ = _; exact p2) z2 rfl rfl q1 z3 q2 z4 q3 z5 q4 z6 rfl Mr6 n16 (.tail _ hlr) (.tail _ hl1) hr1 hro h1o (hideAll_none _ (.tail _ (.head _))) (by decide) RO C T1 (U.mono kv6)) (fun f s7 ⟨hf, m7, cm7, F7, a1, a2, k7, M7⟩ => ⟨hf, m7, cm7, F7, a1, a2, ?_, M7.hide hI1'⟩) fun _ _ e => e
      exact (n06.kb' k7 (fun z => (List.mem_cons.mp z).elim h01 h0o) (in2 (.tail _ hl1) fun c hc => .tail _ (hOW c (hOo c hc)))).hide hI0'
  · rintro m5 cm5 s5 F5 ⟨⟨p1, p2⟩, ⟨q1, q2, q3, q4⟩, n0, n1⟩ kx
    have kv5 : Kp (Vw W s.heap) (Vw W s5.heap) := kb_vw hXW kx
    have Mr5 := Mr.kb' kx hrX hXW
    have n0' : Mu W l0 (be0.map pairV) s5.heap := n0
    have n1' : Mu W l1 (be1.map pairV) s5.heap := n1
    exact fin R F5 (hWd.mono kv5) p1 (VP.mono _ kv5 x1) Mr5 q2 (VP.mono _ kv5 x4) q4 (VP.mono _ kv5 x6) n0' n1' hlr hr0 hr1 hro hBr RO.fine RO.len hbare C.sdok C.sl hpb.1 hpb.2.2.1 (by have := hpb.2.1; omega) (by have := hpb.2.2.2; omega) hend
end
end Mine
set_option maxRecDepth 100000
set_option maxHeartbeats 1000000
set_option linter.unusedVariables false
namespace Mine
open PySem PySem.Spec PySem.Calls PyProof.Rows PySem.W PySem.MeetsSeq
def takeP (tk : Nat → List Str) : List (Str × Str) := (List.range 3).flatMap fun h => (tk h).map fun x => (abc h, x)
def rulesP (tk sd : Nat → List Str) : List (Str × Str) := takeP tk ++ sentP sd
theorem name3 {h : Nat} (hh : h < 3) : abc h ∈ names12 ∧ (abc h ++ "-" ++ aBC h) ∈ names12 ∧ (abc h).cps.size = 1 ∧ (abc h ++ "-" ++ aBC h).cps.size = 3 := by
  have : h = 0 ∨ h = 1 ∨ h = 2 := by omega
  rcases this with rfl | rfl | rfl <;> decide +kernel
theorem post_size : ∀ x ∈ posts12, x.cps.size = 2 := fun x hx => (posty hx).two
theorem rulesP_lay {tk sd : Nat → List Str} {first : List Str} (C : CellsOk tk sd first) : (∀ p ∈ rulesP tk sd, Layable p) ∧ (rulesP tk sd).length ≤ 12 := by
  constructor
  · intro p hp
    rcases List.mem_append.mp hp with hp | hp
    · obtain ⟨h, hh, hp⟩ := List.mem_flatMap.mp hp
      obtain ⟨x, hx, rfl⟩ := List.mem_map.mp hp
      have hh := List.mem_range.mp hh
      obtain ⟨a, b, c, d⟩ := name3 hh
      obtain ⟨_, e, f⟩ := xy_facts (C.tkok h hh x hx)
      exact ⟨miss1 _ a, by show (abc h).cps.size ≤ _; omega, miss2 _ f, by show x.cps.size ≤ _; omega⟩
    · obtain ⟨h, hh, hp⟩ := List.mem_flatMap.mp hp
      obtain ⟨x, hx, rfl⟩ := List.mem_map.mp hp
      have hh := List.mem_range.mp hh
      obtain ⟨a, b, c, d⟩ := name3 hh
      have hx' := C.sdok h hh x hx
      have := post_size x hx'
      exact ⟨miss1 _ b, by show (abc h ++ "-" ++ aBC h).cps.size ≤ _; omega, miss2 _ (List.mem_append_right _ hx'), by show x.cps.size ≤ _; omega⟩
  · have := C.sl 0 (by decide); have := C.sl 1 (by decide); have := C.sl 2 (by decide)
    have := C.tl 0 (by decide); have := C.tl 1 (by decide); have := C.tl 2 (by decide)
    unfold rulesP takeP sentP
    simp [List.range_succ]; omega
section
variable {prog : Program} {w : World} {W : List Addr} {A : Around} {s₀ s : Shared} {mg mb : Str → Option Value} {m cm : Str → Option Value} {L fa lr l0 l1 : Addr} {cd vc vs vt vw : Value} {tk sd : Nat → List Str} {be0 be1 : List (Str × Str)} {first : List Str} {c : Nat → Nat} {lt0 lt1 : List Nat}
theorem law2 (hdue : ∀ xs ys : List Str, uldGo xs.reverse [] ys = (dueL xs ys, dueR xs ys)) (R : Room A 5) (hA : A.frames = some [lawEnv w L fa cd]) (F : Fm (lawEnv w L fa cd) s₀ W m cm s) (hWd : Wd (KK w) mg mb (Vw W s.heap))
    (e2 : cm "cells" = some vc) (x2 : (LsV ((List.range 6).map fun k => D (.int (c k : Int)))).p vc (Vw W s.heap))
    (e3 : cm "takes" = some vt) (x3 : (HandsV prog w tk).p vt (Vw W s.heap)) (e4 : cm "sends" = some vs) (x4 : (HandsV prog w sd).p vs (Vw W s.heap)) (e5 : cm "world" = some vw) (x5 : (WorldV prog w tk sd first).p vw (Vw W s.heap))
    (C : CellsOk tk sd first) (RO : RulesOk tk sd (rulesP tk sd)) (T0 : TurnOk tk sd first (runGo tk sd first (c 4) 2).row (runGo tk sd first (c 5) 4).row lt0 (first.map splitP) be0) (T1 : TurnOk tk sd first (runGo tk sd first (c 5) 4).row (runGo tk sd first (c 4) 2).row lt1 (first.map splitP) be1)
    (hbare : bareGo (rulesP tk sd) names6 = sentP sd) (hend : ∀ h, h < 3 → uldGo (inBox be0 h).reverse [] (inBox be1 h) = ([], [])) (U : Under w L (Vw W s.heap)) :
    wpAny (model prog w) A (execs ((lawB w).1.1.drop 4) (lawEnv w L fa cd)) (fun fl s' => fl = .ret (.bool true) ∧ Keeps s₀ s' ∧ ∃ m, s'.heap.Ns L m) (fun _ _ => False) s := by
  have next := @law3 prog w
  unfold lawB
  dsimp only [List.drop]
  obtain ⟨O, hO⟩ : ∃ O, O = own (lawEnv w L fa cd) := ⟨_, rfl⟩
  have hOW : ∀ b ∈ O, b ∈ W := fun b hb => F.own b (hO ▸ hb)
  have hLO : L ∈ O := hO ▸ .head _
  have hcO : ∀ {n c}, (lawEnv w L fa cd).cells.lookup n = some c → c ∈ O := fun h => hO ▸ mem_own_cell h
  obtain ⟨RL, Rn⟩ := rulesP_lay C
  have htl : ((List.range 3).flatMap tk).length ≤ 6 := by
    have := C.tl 0 (by decide); have := C.tl 1 (by decide); have := C.tl 2 (by decide)
    simp [List.range_succ]; omega
  have hsl : ((List.range 3).flatMap sd).length ≤ 6 := by
    have := C.sl 0 (by decide); have := C.sl 1 (by decide); have := C.sl 2 (by decide)
    simp [List.range_succ]; omega
  have htp : (takeP tk).length ≤ 6 ∧ (sentP sd).length ≤ 6 := by
    have := C.sl 0 (by decide); have := C.sl 1 (by decide); have := C.sl 2 (by decide)
    have := C.tl 0 (by decide); have := C.tl 1 (by decide); have := C.tl 2 (by decide)
    unfold takeP sentP
    constructor <;> (simp [List.range_succ]; omega)
  have hup : ∀ h, h < 3 → Txt.upper (abc h) = aBC h ∧ (abc h).length ≤ 5592405 ∧ (abc h).length = 1 ∧ (aBC h).length = 1 := fun h hh => by
    have : h = 0 ∨ h = 1 ∨ h = 2 := by omega
    rcases this with rfl | rfl | rfl <;> decide +kernel
  -- rules
  refine st_assign (wp_callD (Ps := [LsV ((rulesP tk sd).map pairV)]) F.ok (pe_global (v := .ref 200) (hWd.mono (vw_kp _ _)) rfl) ((hWd.mono (vw_kp _ _)).inK 200 _ rfl) rfl (pes_cons ?_ pes_nil) fun vs1 s1 k1 hvs => ?_)
  · unfold rulesP
    rw [List.map_append]
    refine pe_bin (P1 := LsV ((takeP tk).map pairV)) (P2 := LsV ((sentP sd).map pairV)) ((pe_lc2 (Pit := D (.str "abc")) (Pf := fun h => D (.str (abc h))) (Pg := fun _ x => D (.str x)) (Po := fun h x => pairV (abc h, x)) (List.range 3) tk pe_str (fun v s' _ hv => by rw [← signs_abc]; exact srcs_str R.hd hv) (Nat.le_trans htl (by decide)) ?_ ?_).sub fun v h hv => ?_) ((pe_lc2 (Pit := D (.str "abc")) (Pf := fun h => D (.str (abc h))) (Pg := fun _ x => D (.str x)) (Po := fun h x => pairV (abc h ++ "-" ++ aBC h, x)) (List.range 3) sd pe_str (fun v s' _ hv => by rw [← signs_abc]; exact srcs_str R.hd hv) (Nat.le_trans hsl (by decide)) ?_ ?_).sub fun v h hv => ?_) (op_add_list (by rw [List.length_map, List.length_map, sizeLine_eq]; omega))
    · intro h hr W2' C' s' k' kv' hok hx
      exact ⟨FL .str (tk h), pe_sub (pe_name (ld_free F k' kv' rfl e3 x3)) (pe_name hx) (sub_dict (find_abc (fun k => FL .str (tk k)) (List.mem_range.mp hr))), fun v s' _ hv X hX => src_listX R.hd hX hv⟩
    · intro h hr x hx' W2' C' s' k' kv' hok hx hx2
      exact pe_tuple (pes_cons (pe_name hx) (pes_cons (pe_name hx2) pes_nil)) (show 2 ≤ sizeLine by decide)
    · unfold takeP
      rw [List.map_flatMap]
      simp only [List.map_map]
      exact hv
    · intro h hr W2' C' s' k' kv' hok hx
      exact ⟨FL .str (sd h), pe_sub (pe_name (ld_free F k' kv' rfl e4 x4)) (pe_name hx) (sub_dict (find_abc (fun k => FL .str (sd k)) (List.mem_range.mp hr))), fun v s' _ hv X hX => src_listX R.hd hX hv⟩
    · intro h hr x hx' W2' C' s' k' kv' hok hx hx2
      obtain ⟨u1, u2, u3, u4⟩ := hup h (List.mem_range.mp hr)
      have hlc : (abc h ++ "-").length = 2 := by rw [PySem.Str.length_append, u3]; rfl
      exact pe_tuple (pes_cons (pe_bin (pe_bin (pe_name hx) pe_str (op_add_str (by rw [u3]; decide))) (pe_meth (P1 := D (.str (abc h))) (pe_name hx) pes_nil PySem.F.plainAttrs_str PySem.F.slot_str_upper PySem.F.type_str_upper callee_str (fun v vs s _ h1 h2 => call_upper u1 u2 v vs s h1 h2)) (op_add_str (by rw [hlc, u4]; decide))) (pes_cons (pe_name hx2) pes_nil)) (show 2 ≤ sizeLine by decide)
    · unfold sentP
      rw [List.map_flatMap]
      simp only [List.map_map]
      exact hv
  obtain ⟨⟩ | ⟨h1, hvs⟩ := hvs
  cases hvs
  have kv1 := vw_mono (W := W) (kps_kp k1)
  refine lay_ok (R.less (by decide)) (hWd.mono kv1) (F.ok.mono (kps_kp k1)) h1 RL (by omega) fun vr s2 lr k2 ok2 hlr0 hlrW hI hMr => ?_
  have hlr00 : s.heap.get? lr = none := none_of (kps_kp k1) hlr0
  have F2 := (F.keeps (kps_trans k1 k2)).hide hMr
  have hlrO : lr ∉ O := fun z => hlrW (hOW _ z)
  have kv2 : Kp (Vw W s.heap) (Vw (lr :: W) s2.heap) := kv_hide (vw_mono (kps_kp (kps_trans k1 k2))) hlr00
  refine store_local F2 (fun s3 F3 k3 => ?_) rfl
  have hL3 : ∀ c ∈ [L], c ∈ lr :: W := in1 (.tail _ (hOW _ hLO))
  have kv3' : Kp (Vw (lr :: W) s2.heap) (Vw (lr :: W) s3.heap) := kb_vw hL3 k3
  have kv3 := kv2.trans kv3'
  have r3 := VP.mono _ kv3' hI
  have Mr3 := hMr.kb' k3 (nin1 fun z => hlrO (by rw [z]; exact hLO)) hL3
  have W3 := hWd.mono kv3
  have y2 := VP.mono _ kv3 x2
  have y3 := VP.mono _ kv3 x3
  have y4 := VP.mono _ kv3 x4
  have y5 := VP.mono _ kv3 x5
  clear h1 hI hMr x2 x3 x4 x5
  -- runs
  have run1 : ∀ {i n : Nat} {p1 p2 p3 p4 p5 p6 pos : Pos} {k1 k2 : Nat}, i < 6 → n ≤ 4 → PE prog w (lr :: W) A (lawEnv w L fa cd) s3 (.Call (.Name "_law_run" p1) [.Name "world" p2, .Subscript (.Name "cells" p3) (.Constant (.int (i : Int)) k1 p4) p5, .Constant (.int (n : Int)) k2 p6] [] pos) (FL .str ((runGo tk sd first (c i) n).row.map abc)) := fun {i n _ _ _ _ _ _ _ _ _} hi hn => by
    refine pe_call_def (pe_global (v := .ref 215) (W3.mono (vw_kp _ _)) rfl) ((W3.mono (vw_kp _ _)).inK 215 _ rfl) rfl (pes_cons (pe_name (ld_cell F3 (x := "world") rfl e5 y5)) (pes_cons (pe_sub (P := D (.int (c i : Int))) (pe_name (ld_cell F3 (x := "cells") rfl e2 y2)) (pe_nat (i := i)) (sub_list (by simp [hi]) (by omega))) (pes_cons (pe_nat (i := n)) pes_nil))) (fun vs s k h => ?_)
    obtain ⟨⟩ | ⟨h1, h⟩ := h
    obtain ⟨⟩ | ⟨h2, h⟩ := h
    obtain ⟨⟩ | ⟨h3, h⟩ := h
    cases h
    exact run_ok (R.less (by decide)) (W3.mono (vw_mono (kps_kp k))) h1 h2 h3 hn C.sdok C.fi C.tkok C.fl C.sl C.tl
  refine st_localK F3 (P := LsV [FL .str ((runGo tk sd first (c 4) 2).row.map abc), FL .str ((runGo tk sd first (c 5) 4).row.map abc)]) (pe_list (pes_cons (run1 (i := 4) (n := 2) (by decide) (by decide)) (pes_cons (run1 (i := 5) (n := 4) (by decide) (by decide)) pes_nil)) (show 2 ≤ sizeLine by decide)) fun vru s4 F4 k4 hru4 => ?_
  have kv4' : Kp (Vw (lr :: W) s3.heap) (Vw (lr :: W) s4.heap) := kb_vw hL3 k4
  have kv4 := kv3.trans kv4'
  have W4 := W3.mono kv4'
  have r4 := VP.mono _ kv4' r3
  have Mr4 := Mr3.kb' k4 (nin1 fun z => hlrO (by rw [z]; exact hLO)) hL3
  have z3 := VP.mono _ kv4' y3
  have z4 := VP.mono _ kv4' y4
  have z5 := VP.mono _ kv4' y5
  have hfl := C.fl
  have hfp : ∀ p ∈ first.map splitP, PairOk p := fun p hp => by
    obtain ⟨x, hx, rfl⟩ := List.mem_map.mp hp
    exact split_ok x (C.fi x hx)
  -- ends
  refine st_cellK F4 (P := HdLs s4.heap (first.map splitP) (List.range 2).length) (pe_hds (List.range 2) (first.map splitP) (Pit := RangeV 0 (2 : Nat) 1) (Pf := fun i : Nat => D (.int (i : Int))) (pe_call_type (pe_built (W4.mono (vw_kp _ _)) rfl boot_range) (pes_cons (pe_nat (i := 2)) pes_nil) (fun vs s k h => call_upto vs s h)) (fun v s' _ h => srcs_upto R.hd (by decide) h) (by decide) (fun y hy W2 C' s' k kv' ok => ?_)) rfl fun ve s5 F5 k5 hen => ?_
  · intro E Q hQ
    have W' := W4.mono kv'
    refine wp_callD (Ps := [LsV ((first.map splitP).map pairV)]) ok (pe_global (v := .ref 200) (W'.mono (vw_kp _ _)) rfl) ((W'.mono (vw_kp _ _)).inK 200 _ rfl) rfl (pes_cons ?_ pes_nil) fun vs1 s6 k6 hvs => ?_
    · rw [List.map_map]
      refine pe_lc0 first (Pit := FL .str first) (Pf := fun x => D (.str x)) (pe_sub (pe_name (ld_free F4 k kv' (x := "world") rfl e5 z5)) (pe_nat (i := 2)) (sub_list rfl (by decide))) (fun v s' _ h => src_list R.hd h) (by rw [sizeLine_eq]; omega) ?_
      intro x hx W3 C3 s6 k6 kv6 ok6 hld
      have P := posty (C.fi x hx)
      exact pe_tuple (pes_cons (pe_sub (pe_name hld) (pe_nat (i := 0)) (sub_str (by rw [P.two]; decide) (by decide))) (pes_cons (pe_sub (pe_name hld) (pe_nat (i := 1)) (sub_str (by rw [P.two]; decide) (by decide))) pes_nil)) (show 2 ≤ sizeLine by decide)
    · obtain ⟨⟩ | ⟨h1, hvs⟩ := hvs
      cases hvs
      exact lay_ok (R.less (by decide)) (W'.mono (vw_mono (kps_kp k6))) (ok.mono (kps_kp k6)) h1 (fun p hp => (hfp p hp).facts.lay) (by rw [List.length_map]; omega) fun v s7 l k7 ok7 hl0 hlW hI hM => hQ v s7 l (kps_trans k6 k7) ok7 (none_of (kps_kp k6) hl0) hlW hI hM
  obtain ⟨ls, hln, hnd, hvl, hls⟩ := hen
  obtain ⟨l0, l1, rfl⟩ : ∃ l0 l1, ls = [l0, l1] := by
    match ls, hln with
    | [a, b], _ => exact ⟨a, b, rfl⟩
  have h01 : l0 ≠ l1 := fun z => by simp [z] at hnd
  obtain ⟨ea, en, eus, rfl, eg, er⟩ := hls
  have hve0 : ea ≠ l0 := fun z => hvl l0 (.head _) (by rw [z])
  have hve1 : ea ≠ l1 := fun z => hvl l1 (.tail _ (.head _)) (by rw [z])
  obtain ⟨u0, u1, hus, q0, q1⟩ : ∃ u0 u1, eus.toList = [u0, u1] ∧ (HdL s4.heap (first.map splitP) l0).p u0 (Vw (lr :: W) s5.heap) ∧ (HdL s4.heap (first.map splitP) l1).p u1 (Vw (lr :: W) s5.heap) := by
    generalize eus.toList = ul at er
    obtain ⟨⟩ | ⟨a, er⟩ := er
    obtain ⟨⟩ | ⟨b, er⟩ := er
    cases er
    exact ⟨_, _, rfl, a, b⟩
  obtain ⟨i0, g0, n0⟩ := q0
  obtain ⟨i1, g1, n1⟩ := q1
  obtain ⟨a0, m0, us0, ea0, ga0, ra0⟩ := id g0
  obtain ⟨a1, m1, us1, ea1, ga1, ra1⟩ := id g1
  cases ea0
  cases ea1
  have hX : Lists [l1, l0] (Vw (lr :: W) s5.heap) := fun b hb => by
    rcases List.mem_cons.mp hb with rfl | hb
    · exact ⟨_, ga1, rfl⟩
    · rw [List.mem_singleton.mp hb]; exact ⟨_, ga0, rfl⟩
  have hl0W : l0 ∉ lr :: W := (vw_of ga0).2
  have hl1W : l1 ∉ lr :: W := (vw_of ga1).2
  have kvv : Kp (Vw [l1, l0] (Vw (lr :: W) s5.heap)) (Vw (l1 :: l0 :: lr :: W) s5.heap) := vw_vw
  have N0 : Mu (l1 :: l0 :: lr :: W) l0 ((first.map splitP).map pairV) s5.heap := ⟨us0, ⟨m0, (vw_of ga0).1⟩, (pairs_hide hX ra0).mono kvv⟩
  have N1 : Mu (l1 :: l0 :: lr :: W) l1 ((first.map splitP).map pairV) s5.heap := ⟨us1, ⟨m1, (vw_of ga1).1⟩, (pairs_hide hX ra1).mono kvv⟩
  have x6 : (LsV [HdI l0, HdI l1]).p (.ref ea) (Vw (l1 :: l0 :: lr :: W) s5.heap) := by
    refine ⟨ea, en, eus, rfl, vw_to (vw_of eg).1 fun z => ?_, ?_⟩
    · rcases List.mem_cons.mp z with z | z
      · exact hve1 z
      · rcases List.mem_cons.mp z with z | z
        · exact hve0 z
        · exact (vw_of eg).2 z
    · rw [hus]
      exact .cons (VP.mono _ kvv (hdi_hide hX i0)) (.cons (VP.mono _ kvv (hdi_hide hX i1)) .nil)
  have F6 := F5.hideMore (W' := l1 :: l0 :: lr :: W) (fun b hb => .tail _ (.tail _ hb)) ((F5.ok.cons (vw_of ga0).1).cons (vw_of ga1).1)
  have hce := hcO (n := "ends") rfl
  have hEc : ∀ b ∈ [_], b ∈ lr :: W := in1 (.tail _ (hOW _ hce))
  have kv5 : Kp (Vw (lr :: W) s4.heap) (Vw (l1 :: l0 :: lr :: W) s5.heap) := fun b o e => vw_to (vw_of (kb_vw hEc k5 b o e)).1 fun z => by
    rcases List.mem_cons.mp z with rfl | z
    · rw [(vw_of e).1] at n1; cases n1
    · rcases List.mem_cons.mp z with rfl | z
      · rw [(vw_of e).1] at n0; cases n0
      · exact (vw_of e).2 z
  have Mr5 : Mu (l1 :: l0 :: lr :: W) lr ((rulesP tk sd).map pairV) s5.heap := Mr4.go (kb_get k5 (nin1 fun z => hlrO (z ▸ hce))) kv5
  have hlr4 : ∃ o, s4.heap.get? lr = some o := by obtain ⟨us, ⟨n, g⟩, q⟩ := Mr4; exact ⟨_, g⟩
  have hr0 : lr ≠ l0 := fun z => hl0W (z ▸ .head _)
  have hr1 : lr ≠ l1 := fun z => hl1W (z ▸ .head _)
  have hno : ∀ {b : Addr}, b ∉ lr :: W → b ∉ own (lawEnv w L fa cd) := fun h z => h (.tail _ (hOW _ (hO ▸ z)))
  have hs0 : ∀ {b : Addr}, s4.heap.get? b = none → s₀.heap.get? b = none := fun h => none_of F4.keep h
  have hs0r : s₀.heap.get? lr = none := none_of F.keep hlr00
  exact next (tk := tk) (first := first) hdue (R.less (by decide)) hA F6 (W4.mono kv5) rfl (VP.mono _ kv5 r4) rfl (VP.mono _ kv5 hru4) e3 (VP.mono _ kv5 z3) e4 (VP.mono _ kv5 z4) e5 (VP.mono _ kv5 z5) rfl x6 Mr5 N0 N1 (.tail _ (.tail _ (.head _))) (.tail _ (.head _)) (.head _) hr0 hr1 h01 (fun z => hlrO (hO ▸ z)) (hno hl0W) (hno hl1W) hs0r (hs0 n0) (hs0 n1) RO C T0 T1 hbare hend (U.mono (kv4.trans kv5))
end
end Mine
set_option maxRecDepth 100000
set_option maxHeartbeats 1000000
set_option linter.unusedVariables false
namespace Mine
open PySem PySem.Spec PySem.Calls PyProof.Rows PySem.W PySem.MeetsSeq
theorem tup_all {α : Type} (f : Nat → α) (n : Nat) : tup f (fun _ => true) n = (List.range n).map f := by
  unfold tup
  rw [List.filter_eq_self.mpr (fun _ _ => rfl)]
section
variable {prog : Program} {w : World} {W : List Addr} {A : Around} {env : Env} {s₀ s : Shared} {mg mb : Str → Option Value} {m cm : Str → Option Value} {rest : List Stmt} {P P1 P2 : VP} {p p1 pos cp px : Pos} {f : Str → PyData} {e e1 e2 : Expr} {x : Str} {α : Type}
theorem pe_dictG {kx vx iter : Expr} {scope : Scope} {cl : List (Str × Addr)} {cv : Addr → Env} {b0 : Addr → Addr} {Lv : Addr → Heap → Prop} {Bd : Addr → Value → Heap → Prop} {Pit : VP} {Pf : α → VP} (xs : List α) (Ko : Nat → Str) (Po : Nat → VP)
    (hiter : PE prog w W A env s₀ iter Pit) (hsrc : ∀ v s, Keeps s₀ s → Pit.p v (Vw W s.heap) → Srcs prog w W A v s (xs.map Pf)) (hn : xs.length ≤ sizeLine)
    (T : ∀ i (h : i < xs.length), ∀ (W' : List Addr) (C : Addr) (s : Shared) (v : Value), Keeps s₀ s → Kp (Vw W s₀.heap) (Vw W' s.heap) → WOK W' s.heap → Bd C v s.heap → (∀ P : VP, P.p v (Vw W' s.heap) → Ld prog w W' A (cv C) s x P) → (Pf xs[i]).p v (Vw W' s.heap) →
      PE prog w W' A (cv C) s kx (D (.str (Ko i))) ∧ PE prog w W' A (cv C) s vx (Po i))
    (hKo : ∀ i, i < xs.length → Ko i ∉ (List.range i).map Ko)
    (hclos : closureFor scope env = pure cl) (hkind : scope.kind = .function) (hnames : ∀ y ∈ scope.names, y.2 = .local → scope.names.lookup y.1 = some .local)
    (hnew : NewEnv prog w A scope env cl cv Lv) (hcv : ∀ C, (cv C).locals = C) (tg : ∀ C, Tg prog w (cv C) x (b0 C) (Lv C) (Bd C)) (hb0 : ∀ C, @LE.le Nat _ C (b0 C)) (hNsB : ∀ C h, b0 C = C → Lv C h → ∃ m, h.Ns C m)
    (hs : ∀ x, foldedSetIterable iter env x = pure x) :
    PE prog w W A env s₀ (.DictComp kx vx [⟨.Name x px, iter, [], 0⟩] scope pos) (DcV prog w ((List.range xs.length).map fun k => (Ko k, Po k))) := by
  intro s k hw E Q hQ
  rw [arm_eval_DictComp]
  refine wpAny_comprehension_free (use := none) rfl hs hclos hkind hnames (hiter s k hw E _ fun xv s₁ k₁ hv => hsrc xv s₁ (kps_trans k k₁) hv (hw.mono (kps_kp k₁)) E _ fun o fp St Wk hst hfp _ _ => ?_)
  rw [List.length_map] at Wk
  refine comp_one (RR := fun acc C => compPost (model prog w) A E none Q acc C) (oA := { cls := .type "dict", data := .dict #[] }) (p := iter.pos)
    (fin := fun I D C => (do
        let kv ← eval kx (cv C)
        let vv ← holding [kv] (eval vx (cv C))
        standAt { kx.pos with endLine := vx.pos.endLine, endCol := vx.pos.endCol }
        holding [kv, vv] (dictSet D kv vv)) >>= fun _ => again (.compLoop (.DictComp kx vx [⟨.Name x px, iter, [], 0⟩] scope pos) 0 (.ref I) (.ref D) (cv C)))
    (cv := cv) (tb := fun _ => true) (ifs := []) (b0 := b0) (Bd := Bd) (Ac := AcD prog w Ko Po)
    Wk hst hfp (hw.mono (kps_kp k₁)) (fun s E Q h => wpAny_newObj_type h) rfl hnew hcv tg hb0 hNsB (fun _ _ _ => rfl) (fun _ _ _ => rfl) (fun _ _ _ => rfl) (fun _ _ _ => rfl) (fun I D C R s h1 h2 => codeAny_compStart_dict h1 (h2 _))
    (gath_dict Ko Po xs.length) ?_ ?_
  · intro i hi D W' C s2 v k2 kv2 ok2 hD hDB hD0 hC0 hbd2 hld hpi
    have k02 := kps_trans (kps_trans k k₁) k2
    have kv02 := (vw_mono (kps_kp (kps_trans k k₁))).trans kv2
    have hp : (Pf xs[i]).p v (Vw W' s2.heap) := by
      have : nth (xs.map Pf) i = Pf xs[i] := by unfold nth; simp [List.getD_eq_getElem?_getD, hi]
      rw [this] at hpi; exact hpi
    obtain ⟨T1, T2⟩ := T i hi W' C s2 v k02 kv02 ok2 hbd2 hld hp
    refine ⟨fun E Q hQ => wpAny_pure (hQ s2 (kps_refl s2)), fun hb s3 k3 hac ⟨mC, hnC⟩ hbd hCW hDC E Q hQ => ?_⟩
    refine wpAny_bind (wpAny_bind (T1 s3 k3 (ok2.mono (kps_kp k3)) _ _ fun kv s4 k4 hkv => ?_))
    refine wpAny_bind (wpAny_holding (T2 s4 (kps_trans k3 k4) (ok2.mono (kps_kp (kps_trans k3 k4))) _ _ fun vv s5 k5 hvv => wpAny_bind (wpAny_standAt (wpAny_holding ?_))))
    have k35 := kps_trans k4 k5
    have hac5 : AcD prog w Ko Po D W' i s5.heap := (gath_dict Ko Po xs.length).keep hac (fun o => kps_kp k35 _ o) (vw_mono (kps_kp k35))
    refine dict_step hD hac5 (VP.mono _ (vw_mono (kps_kp k5)) hkv) hvv (by rw [tup_all]; exact hKo i hi) (Nat.le_trans (Nat.le_of_lt hi) hn) fun s6 k6 hac6 => ?_
    have hbd6 : Bd C v s6.heap := (tg C).keep (fun o q => kb_get k6 (nin1 (Ne.symm hDB)) _ (kps_kp k35 _ _ q)) hbd
    exact wpAny_pure (hQ s6 (kb_mono (by simp) (kb_trans (kb_of k35) k6)) ⟨mC, (hnC.keeps (kps_kp k35)).at' (kb_get k6 (nin1 (Ne.symm hDC)))⟩ ((tg C).live hbd6) hac6)
  · intro Dd C h' tk hD hC hDC ⟨m', hnC⟩ ⟨ps, hpl, hq, hV⟩ hk hCb hDb
    refine ⟨m', hnC, fun h'' hs'' => ?_⟩
    have k2 : Kp s₁.heap h'' := fun b o e => hs''.extBut b o (by rintro rfl; rw [get_size_none _ hC] at e; cases e) (hk b o e)
    have hw' : WOK W s₁.heap := hw.mono (kps_kp k₁)
    rw [tup_all] at hq hV
    have kvv : Kp (Vw (Dd :: b0 C :: C :: s₁.heap.objs.size :: W) h') (Vw W h'') := fun b o e => by
      obtain ⟨e1, e2⟩ := vw_of e
      exact vw_to (hs''.extBut b o (fun q => e2 (by simp [q])) e1) fun q => e2 (by simp [q])
    refine hQ _ _ (kps_trans k₁ (kps_mk k2)) ⟨Dd, ps, rfl, hpl.at fun o q => vw_to (hs''.extBut _ o hDC q) (hw'.fresh hD), by rw [hq, List.map_map]; rfl, by rw [List.map_map]; exact hV.mono kvv⟩
/-- {k: v for x in ..}, x the block's own -/
theorem pe_dict0 {kx vx iter : Expr} {scope : Scope} {cl : List (Str × Addr)} {Pit : VP} {Pf : α → VP} (xs : List α) (Ko : Nat → Str) (Po : Nat → VP)
    (hiter : PE prog w W A env s₀ iter Pit) (hsrc : ∀ v s, Keeps s₀ s → Pit.p v (Vw W s.heap) → Srcs prog w W A v s (xs.map Pf)) (hn : xs.length ≤ sizeLine)
    (T : ∀ i (h : i < xs.length), ∀ (W' : List Addr) (C : Addr) (s : Shared), Keeps s₀ s → Kp (Vw W s₀.heap) (Vw W' s.heap) → WOK W' s.heap → Ld prog w W' A (compEnvC scope cl C env) s x (Pf xs[i]) →
      PE prog w W' A (compEnvC scope cl C env) s kx (D (.str (Ko i))) ∧ PE prog w W' A (compEnvC scope cl C env) s vx (Po i))
    (hKo : ∀ i, i < xs.length → Ko i ∉ (List.range i).map Ko)
    (hclos : closureFor scope env = pure cl := by rfl) (hcell : ∀ y ∈ scope.names, y.2 ≠ .cell := by decide) (hkind : scope.kind = .function := by rfl)
    (hnames : ∀ y ∈ scope.names, y.2 = .local → scope.names.lookup y.1 = some .local := by decide) (hx : scope.names.lookup x = some .local := by rfl)
    (hs : ∀ x, foldedSetIterable iter env x = pure x := by intro _; rfl) :
    PE prog w W A env s₀ (.DictComp kx vx [⟨.Name x px, iter, [], 0⟩] scope pos) (DcV prog w ((List.range xs.length).map fun k => (Ko k, Po k))) := by
  have hxk : ∀ C, (compEnvC scope cl C env).kindOf x = some .local := fun C => lookup_relabel_local hx
  have hfk : ∀ C, (compEnvC scope cl C env).scope.kind = .function := fun C => by simp [compEnvC, relabel, hkind]
  exact pe_dictG (cv := fun C => compEnvC scope cl C env) (b0 := id) (Bd := fun C v h => ∃ m, h.Ns C m ∧ m x = some v) xs Ko Po hiter hsrc hn (fun i hi W' C s v k kv ok bd hld hp => T i hi W' C s k kv ok (hld _ hp)) hKo hclos hkind hnames (newEnv_local hcell hkind) (fun _ => rfl) (fun C => tg_local (cenv := compEnvC scope cl C env) (hfk C) (hxk C)) (fun C => Nat.le_refl _) (fun C h _ q => q) hs
/-- {k: v for x in ..}, x closed over by a block within -/
theorem pe_dictC {kx vx iter : Expr} {scope : Scope} {cl : List (Str × Addr)} {Pit : VP} {Pf : α → VP} (xs : List α) (Ko : Nat → Str) (Po : Nat → VP)
    (hiter : PE prog w W A env s₀ iter Pit) (hsrc : ∀ v s, Keeps s₀ s → Pit.p v (Vw W s.heap) → Srcs prog w W A v s (xs.map Pf)) (hn : xs.length ≤ sizeLine)
    (T : ∀ i (h : i < xs.length), ∀ (W' : List Addr) (C : Addr) (s : Shared) (v : Value), Keeps s₀ s → Kp (Vw W s₀.heap) (Vw W' s.heap) → WOK W' s.heap → s.heap.IsCell (Nat.succ C) (some v) → (Pf xs[i]).p v (Vw W' s.heap) →
      PE prog w W' A (celled scope x cl env C) s kx (D (.str (Ko i))) ∧ PE prog w W' A (celled scope x cl env C) s vx (Po i))
    (hKo : ∀ i, i < xs.length → Ko i ∉ (List.range i).map Ko)
    (hclos : closureFor scope env = pure cl := by rfl) (hkind : scope.kind = .function := by rfl)
    (hcf : ∀ n, cellsFrom n scope.names cl = (x, n) :: cl := by intro _; rfl) (hpc : ∀ h, pushCells h scope.names = h.push { cls := .type "cell", data := .cell none } := by intro _; rfl)
    (hkx : ∀ C, (celled scope x cl env C).kindOf x = some .cell := by intro _; rfl)
    (hnames : ∀ y ∈ scope.names, y.2 = .local → scope.names.lookup y.1 = some .local := by decide)
    (hs : ∀ x, foldedSetIterable iter env x = pure x := by intro _; rfl) :
    PE prog w W A env s₀ (.DictComp kx vx [⟨.Name x px, iter, [], 0⟩] scope pos) (DcV prog w ((List.range xs.length).map fun k => (Ko k, Po k))) :=
  pe_dictG (cv := celled scope x cl env) (b0 := fun C => Nat.succ C) (Lv := fun C h => ∃ o, h.IsCell (Nat.succ C) o) (Bd := fun C v h => h.IsCell (Nat.succ C) (some v)) xs Ko Po hiter hsrc hn (fun i hi W' C s v k kv ok bd hld hp => T i hi W' C s v k kv ok bd hp) hKo hclos hkind hnames (newEnv_cell hcf hpc) (fun _ => rfl)
    (fun C => tg_cell (by simp [celled, compEnvC, relabel, hkind]) (hkx C) (by simp [celled, compEnvC])) (fun C => Nat.le_succ C) (fun C h q => absurd q (Nat.succ_ne_self C)) hs
/-- xs[a::b] -/
def stepI (n : Nat) (a b : Int) : List Nat := sliceRange (sliceBounds (some a) none (some b) n).1 (sliceBounds (some a) none (some b) n).2.1 (sliceBounds (some a) none (some b) n).2.2
theorem VAll.pick {h : Heap} {Ps : List VP} {vs : List Value} (r : VAll h Ps vs) : ∀ is : List Nat, VAll h (is.filterMap (Ps[·]?)) (is.filterMap (vs[·]?))
  | [] => .nil
  | i :: is => by
    have ih := VAll.pick r is
    rw [List.filterMap_cons, List.filterMap_cons]
    cases hP : Ps[i]? with
    | none =>
      have : vs[i]? = none := by
        rw [List.getElem?_eq_none_iff] at hP ⊢
        rw [r.length]; exact hP
      rw [this]
      exact ih
    | some P =>
      obtain ⟨v, e1, e2⟩ := r.get i hP
      rw [e1]
      exact .cons e2 ih
/-- a list, whatever else its object has -/
def LsQ (Ps : List VP) : VP := ⟨fun v h => ∃ a vs, v = .ref a ∧ h.IsList a vs ∧ VAll h Ps vs.toList, fun k ⟨a, vs, e, ⟨o, g, c, d⟩, r⟩ => ⟨a, vs, e, ⟨o, k _ _ g, c, d⟩, r.mono k⟩⟩
theorem pe_step {Ps : List VP} {a b : Int} {value e1 e2 : Expr} (hv : PE prog w W A env s₀ value (LsQ Ps)) (h1 : PE prog w W A env s₀ e1 (D (.int a))) (h2 : PE prog w W A env s₀ e2 (D (.int b))) (hb : b ≠ 0) (hsz : Ps.length ≤ sizeLine) :
    PE prog w W A env s₀ (.Subscript value (.Slice (some e1) none (some e2) p) pos) (LsV ((stepI Ps.length a b).filterMap (Ps[·]?))) := by
  intro s k hw E Q hQ
  refine wp_slice_list (ops := fun o i => [o, i]) (fun _ _ => rfl) (hv s k hw E _ fun o s1 k1 ho => ?_)
  rw [evalPart_none, evalPart_some, evalPart_some]
  refine h1 s1 (kps_trans k k1) (hw.mono (kps_kp k1)) E _ fun u s2 k2 hu => ?_
  refine wpAny_pure ?_
  refine h2 s2 (kps_trans k (kps_trans k1 k2)) (hw.mono (kps_kp (kps_trans k1 k2))) E _ fun u2 s3 k3 hu2 => ?_
  obtain ⟨a', vs, rfl, ⟨ob, g, gc, gd⟩, r⟩ := (LsQ Ps).mono (vw_mono (kps_kp (kps_trans k2 k3))) ho
  obtain ⟨t, rfl⟩ := d_int hu
  obtain ⟨t2, rfl⟩ := d_int hu2
  have hl : s3.heap.IsList a' vs := ⟨_, (vw_of g).1, gc, gd⟩
  have hsz' : vs.size = Ps.length := by rw [← r.length]; simp
  refine ⟨a', vs, some a, none, some b, rfl, hl, by rw [hsz']; exact hsz, .int _ _, .none, .int _ _, fun z => hb (Option.some.inj z), ?_⟩
  have kk := kps_trans k1 (kps_trans k2 k3)
  refine hQ _ _ (kps_trans kk (kps_heap fun b o e => Heap.get?_push_of_some _ (Heap.get?_push_of_some _ e))) (sl_end (hh := s.heap) (l := a') (hw.mono (kps_kp kk)) ?_)
  have e : (slicePick vs (some a) none (some b)).toList = (stepI Ps.length a b).filterMap (vs.toList[·]?) := by
    unfold slicePick stepI
    rw [hsz']
    simp
  rw [e]
  exact r.pick _
end
end Mine
set_option maxRecDepth 100000
set_option maxHeartbeats 1000000
set_option linter.unusedVariables false
namespace Mine
open PySem PySem.Spec PySem.Calls PyProof.Rows PySem.W PySem.MeetsSeq
def baseI (k : Nat) : Int := ([48, 2, 157, 5581, 2, 0] : List Int).getD k 0
def cellI (ns : List Int) (k : Nat) : Int := (baseI k + ((stepI ns.length k 6).filterMap (ns[·]?)).sum).fmod 1000000
def cellOf (ns : List Int) (k : Nat) : Nat := (cellI ns k).toNat
theorem cell_cast (ns : List Int) (k : Nat) : ((cellOf ns k : Nat) : Int) = cellI ns k := by
  unfold cellOf
  refine Int.toNat_of_nonneg ?_
  unfold cellI
  rw [Int.fmod_eq_emod_of_nonneg _ (by decide)]
  exact Int.emod_nonneg _ (by decide)
def tkOf (c : Nat → Nat) (h : Nat) : List Str := (List.range (1 + c h % 2)).map fun i => xy (c h / 2 ^ (1 + i) % 2)
def sdOf (c : Nat → Nat) (h : Nat) : List Str := postsOf (c h / 16) (1 + c h / 8 % 2)
def firstOf (c : Nat → Nat) : List Str := postsOf (c 3) 5
theorem post_mem {c n : Nat} : ∀ x ∈ postsOf c n, x ∈ posts12 := by
  intro x hx
  obtain ⟨k, hk, rfl⟩ := List.mem_map.mp hx
  have key : ∀ u, u < 2 → ∀ h, h < 3 → ∀ l, l < 2 → pst u h l ∈ posts12 := by decide +kernel
  exact key (k % 2) (Nat.mod_lt _ (by decide)) ((c / 6 ^ k % 6) / 2) (by omega) (c / 6 ^ k % 2) (Nat.mod_lt _ (by decide))
theorem post_len (c n : Nat) : (postsOf c n).length = n := by unfold postsOf; rw [List.length_map, List.length_range]
theorem cells_ok (c : Nat → Nat) : CellsOk (tkOf c) (sdOf c) (firstOf c) where
  sdok := fun h _ => post_mem
  sl := fun h _ => by unfold sdOf; rw [post_len]; omega
  tkok := fun h _ x hx => by
    obtain ⟨i, _, rfl⟩ := List.mem_map.mp hx
    rcases Nat.mod_two_eq_zero_or_one (c h / 2 ^ (1 + i)) with e | e <;> rw [e] <;> simp
  tl := fun h _ => by unfold tkOf; rw [List.length_map, List.length_range]; omega
  fi := post_mem
  fl := by unfold firstOf; rw [post_len]; exact Nat.le_refl _
section
variable {prog : Program} {w : World} {W : List Addr} {A : Around} {s₀ s : Shared} {mg mb : Str → Option Value} {m cm : Str → Option Value} {L fa : Addr} {cd vsc : Value} {ns : List Int}
theorem abc_new : ∀ i, i < 3 → abc i ∉ (List.range i).map abc := by decide +kernel
theorem law1 (hdue : ∀ xs ys : List Str, uldGo xs.reverse [] ys = (dueL xs ys, dueR xs ys)) (R : Room A 5) (hA : A.frames = some [lawEnv w L fa cd]) (F : Fm (lawEnv w L fa cd) s₀ W m cm s) (hWd : Wd (KK w) mg mb (Vw W s.heap))
    (e1 : cm "script" = some vsc) (x1 : (LsQ (ns.map fun n => D (.int n))).p vsc (Vw W s.heap)) (hns : ns.length ≤ 1000)
    {be0 be1 : List (Str × Str)} {lt0 lt1 : List Nat} (RO : RulesOk (tkOf (cellOf ns)) (sdOf (cellOf ns)) (rulesP (tkOf (cellOf ns)) (sdOf (cellOf ns))))
    (T0 : TurnOk (tkOf (cellOf ns)) (sdOf (cellOf ns)) (firstOf (cellOf ns)) (runGo (tkOf (cellOf ns)) (sdOf (cellOf ns)) (firstOf (cellOf ns)) (cellOf ns 4) 2).row (runGo (tkOf (cellOf ns)) (sdOf (cellOf ns)) (firstOf (cellOf ns)) (cellOf ns 5) 4).row lt0 ((firstOf (cellOf ns)).map splitP) be0)
    (T1 : TurnOk (tkOf (cellOf ns)) (sdOf (cellOf ns)) (firstOf (cellOf ns)) (runGo (tkOf (cellOf ns)) (sdOf (cellOf ns)) (firstOf (cellOf ns)) (cellOf ns 5) 4).row (runGo (tkOf (cellOf ns)) (sdOf (cellOf ns)) (firstOf (cellOf ns)) (cellOf ns 4) 2).row lt1 ((firstOf (cellOf ns)).map splitP) be1)
    (hbare : bareGo (rulesP (tkOf (cellOf ns)) (sdOf (cellOf ns))) names6 = sentP (sdOf (cellOf ns))) (hend : ∀ h, h < 3 → uldGo (inBox be0 h).reverse [] (inBox be1 h) = ([], [])) (U : Under w L (Vw W s.heap)) :
    wpAny (model prog w) A (execs (lawB w).1.1 (lawEnv w L fa cd)) (fun fl s' => fl = .ret (.bool true) ∧ Keeps s₀ s' ∧ ∃ m, s'.heap.Ns L m) (fun _ _ => False) s := by
  have next := @law2 prog w
  have C := cells_ok (cellOf ns)
  have hcc := cell_cast ns
  generalize hc : cellOf ns = c at *
  unfold lawB
  dsimp only
  have hOW : ∀ b ∈ own (lawEnv w L fa cd), b ∈ W := F.own
  have hcW : ∀ {n a}, (lawEnv w L fa cd).cells.lookup n = some a → ∀ b ∈ [a], b ∈ W := fun h => in1 (hOW _ (mem_own_cell h))
  have hlen6 : (List.range 6).length ≤ sizeLine := by decide
  -- cells
  refine st_cellK F (P := LsV ((List.range 6).map fun k => D (.int (c k : Int)))) (pe_lc0 (List.range 6) (Pit := RangeV 0 (6 : Nat) 1) (Pf := fun i : Nat => D (.int (i : Int))) (Po := fun k => D (.int (c k : Int))) (pe_call_type (pe_built (hWd.mono (vw_kp _ _)) rfl boot_range) (pes_cons (pe_nat (i := 6)) pes_nil) (fun vs s k h => call_upto vs s h)) (fun v s' _ h => srcs_upto R.hd (by decide) h) hlen6 ?_) rfl fun vc s1 F1 k1 h1 => ?_
  · intro k hk W2 C' s' k' kv' ok hld
    have hk6 := List.mem_range.mp hk
    have hget : [D (.int 48), D (.int 2), D (.int 157), D (.int 5581), D (.int 2), D (.int 0)][k]? = some (D (.int (baseI k))) := by
      have : k = 0 ∨ k = 1 ∨ k = 2 ∨ k = 3 ∨ k = 4 ∨ k = 5 := by omega
      rcases this with rfl | rfl | rfl | rfl | rfl | rfl <;> rfl
    show PE _ _ _ _ _ _ _ (D (.int (c k : Int)))
    rw [hcc k]
    refine pe_bin (P1 := D (.int (baseI k + ((stepI ns.length k 6).filterMap (ns[·]?)).sum))) (P2 := D (.int 1000000)) (pe_bin (P1 := D (.int (baseI k))) (P2 := D (.int ((stepI ns.length k 6).filterMap (ns[·]?)).sum)) (pe_sub (P2 := D (.int (k : Int))) (pe_list (pes_cons pe_int (pes_cons pe_int (pes_cons pe_int (pes_cons pe_int (pes_cons pe_int (pes_cons pe_int pes_nil)))))) (show 6 ≤ sizeLine by decide)) (pe_name hld) (sub_list hget (by omega))) ?_ op_add_int) pe_int (op_mod (by decide))
    refine pe_call_builtin (Ps := [LsV (((stepI ns.length k 6).filterMap (ns[·]?)).map fun n => D (.int n))]) (pe_built ((hWd.mono kv').mono (vw_kp _ _)) rfl Mine.boot_sum) (pes_cons ?_ pes_nil) (fun vs s k h => call_sum R.hd vs s h)
    refine (pe_step (a := (k : Int)) (b := 6) (pe_name (ld_free F k' kv' (x := "script") rfl e1 x1)) (pe_name hld) pe_int (by decide) (by rw [List.length_map, sizeLine_eq]; omega)).sub fun v h hv => ?_
    rw [List.length_map] at hv
    have e : (stepI ns.length k 6).filterMap ((ns.map fun n => D (.int n))[·]?) = ((stepI ns.length k 6).filterMap (ns[·]?)).map fun n => D (.int n) := by
      rw [List.map_filterMap]
      refine congrArg (fun f => List.filterMap f _) ?_
      funext i
      rw [List.getElem?_map]
    rw [e] at hv
    exact hv
  have kv1 : Kp (Vw W s.heap) (Vw W s1.heap) := kb_vw (hcW (n := "cells") rfl) k1
  have W1 := hWd.mono kv1
  have hgc : ∀ {k}, k < 6 → ((List.range 6).map fun k => D (.int (c k : Int)))[k]? = some (D (.int (c k : Int))) := fun h => by simp [h]
  -- takes
  refine st_cellK F1 (P := HandsV prog w (tkOf c)) (pe_dictC (List.range 3) abc (fun h => FL .str (tkOf c h)) (Pit := RangeV 0 (3 : Nat) 1) (Pf := fun i : Nat => D (.int (i : Int))) (pe_call_type (pe_built (W1.mono (vw_kp _ _)) rfl boot_range) (pes_cons (pe_nat (i := 3)) pes_nil) (fun vs s k h => call_upto vs s h)) (fun v s' _ h => srcs_upto R.hd (by decide) h) (by decide) ?_ abc_new) rfl fun vt s2 F2 k2 h2 => ?_
  · intro i hi W2 C' s' v k' kv' ok hcell hp
    have hi3 : i < 3 := hi
    rw [List.getElem_range] at hp
    refine ⟨pe_sub pe_str (pe_name (ld_at hcell hp (kps_refl _) (Kp.refl _))) (sub_str (by show i < 3; exact hi3) (by omega)), ?_⟩
    have hcv := VP.mono _ kv' h1
    show PE _ _ _ _ _ _ _ (LsV ((tkOf c i).map fun x => D (.str x)))
    unfold tkOf
    rw [List.map_map]
    refine pe_lc0 (List.range (1 + c i % 2)) (Pit := RangeV 1 ((2 + c i % 2 : Nat) : Int) 1) (Pf := fun j : Nat => D (.int ((1 + j : Nat) : Int))) ?_ (fun v s'' _ h => ?_) (by rw [List.length_range, sizeLine_eq]; omega) ?_
    · have W' := (W1.mono kv').mono (vw_kp _ _)
      exact pe_call_type (pe_built W' rfl boot_range) (pes_cons (pe_int (i := 1)) (pes_cons (pe_bin (pe_nat (i := 2)) (pe_bin (pe_sub (pe_name (ld_far F1 k' kv' rfl rfl h1)) (pe_name (ld_at hcell hp (kps_refl _) (Kp.refl _))) (sub_list (hgc (by omega)) (by omega))) (pe_nat (i := 2)) (op_modN (by decide))) op_addN) pes_nil)) (fun vs s k h => call_range2 vs s h)
    · have := srcs_range (prog := prog) (w := w) (a := 1) (b := ((2 + c i % 2 : Nat) : Int)) (c := 1) (n := 1 + c i % 2) R.hd (small_one (by omega) (by omega) (by omega) (by omega)) (by unfold Builtin.Range.rangeSize; simp; omega) h
      simpa using this
    · intro j hj W3 C3 s3 k3 kv3 ok3 hld
      have hj2 : j < 2 := by have := List.mem_range.mp hj; omega
      have hb : (Builtin.Int.intBits ((2 : Nat) : Int) : Int) * ((1 + j : Nat) : Nat) ≤ 2 ^ 27 := by
        have : (Builtin.Int.intBits ((2 : Nat) : Int) : Int) = 2 := by decide +kernel
        rw [this]; omega
      have h2p : 2 ^ (1 + j) < 1073741824 := Nat.lt_of_le_of_lt (Nat.pow_le_pow_right (by decide) (show 1 + j ≤ 2 by omega)) (by decide)
      exact pe_sub pe_str (pe_bin (pe_bin (pe_sub (pe_name (ld_far F1 (kps_trans k' k3) (kv'.trans kv3) rfl rfl h1)) (pe_name (ld_at hcell hp k3 kv3)) (sub_list (hgc (by omega)) (by omega))) (pe_bin (pe_nat (i := 2)) (pe_name hld) (op_powN hb)) (op_fdivN (Nat.pow_pos (by decide)) h2p)) (pe_nat (i := 2)) (op_modN (by decide))) (sub_str (Nat.mod_lt _ (by decide)) (by omega))
  have kv2 : Kp (Vw W s1.heap) (Vw W s2.heap) := kb_vw (hcW (n := "takes") rfl) k2
  have W2 := W1.mono kv2
  have c2 := VP.mono _ kv2 h1
  have hlp : ∀ h, (1 + c h / 8 % 2) ≤ 5 := fun h => by omega
  -- sends
  refine st_cellK F2 (P := HandsV prog w (sdOf c)) (pe_dict0 (List.range 3) abc (fun h => FL .str (sdOf c h)) (Pit := RangeV 0 (3 : Nat) 1) (Pf := fun i : Nat => D (.int (i : Int))) (pe_call_type (pe_built (W2.mono (vw_kp _ _)) rfl boot_range) (pes_cons (pe_nat (i := 3)) pes_nil) (fun vs s k h => call_upto vs s h)) (fun v s' _ h => srcs_upto R.hd (by decide) h) (by decide) ?_ abc_new) rfl fun vs s3 F3 k3 h3 => ?_
  · intro i hi W2' C' s' k' kv' ok hld
    have hi3 : i < 3 := hi
    rw [List.getElem_range] at hld
    have W' := (W2.mono kv').mono (vw_kp _ _)
    refine ⟨pe_sub pe_str (pe_name hld) (sub_str (by show i < 3; exact hi3) (by omega)), ?_⟩
    refine pe_call_def (pe_global (v := .ref 205) W' rfl) (W'.inK 205 _ rfl) rfl (pes_cons (P := D (.int ((c i / 16 : Nat) : Int))) (pe_bin (pe_sub (pe_name (ld_free F2 k' kv' (x := "cells") rfl rfl c2)) (pe_name hld) (sub_list (hgc (by omega)) (by omega))) (pe_nat (i := 16)) (op_fdivN (by decide) (by decide))) (pes_cons (P := D (.int ((1 + c i / 8 % 2 : Nat) : Int))) (pe_bin (pe_nat (i := 1)) (pe_bin (pe_bin (pe_sub (pe_name (ld_free F2 k' kv' (x := "cells") rfl rfl c2)) (pe_name hld) (sub_list (hgc (by omega)) (by omega))) (pe_nat (i := 8)) (op_fdivN (by decide) (by decide))) (pe_nat (i := 2)) (op_modN (by decide))) op_addN) pes_nil)) (fun vs s k h => ?_)
    obtain ⟨⟩ | ⟨h1', h⟩ := h
    obtain ⟨⟩ | ⟨h2', h⟩ := h
    cases h
    exact posts_ok (R.less (by decide)) (W'.mono (kps_kp k)) h1' h2' (hlp i)
  have kv3 : Kp (Vw W s2.heap) (Vw W s3.heap) := kb_vw (hcW (n := "sends") rfl) k3
  have W3 := W2.mono kv3
  have c3 := VP.mono _ kv3 c2
  have t3 := VP.mono _ kv3 h2
  -- world
  refine st_cellK F3 (P := WorldV prog w (tkOf c) (sdOf c) (firstOf c)) (pe_list (pes_cons (pe_name (ld_cell F3 (x := "takes") rfl rfl t3)) (pes_cons (pe_name (ld_cell F3 (x := "sends") rfl rfl h3)) (pes_cons (pe_call_def (pe_global (v := .ref 205) (W3.mono (vw_kp _ _)) rfl) ((W3.mono (vw_kp _ _)).inK 205 _ rfl) rfl (pes_cons (P := D (.int (c 3 : Int))) (pe_sub (pe_name (ld_cell F3 (x := "cells") rfl rfl c3)) (pe_nat (i := 3)) (sub_list (hgc (by decide)) (by decide))) (pes_cons (pe_nat (i := 5)) pes_nil)) (fun vs s k h => ?_)) pes_nil))) (show 3 ≤ sizeLine by decide)) rfl fun vw s4 F4 k4 h4 => ?_
  · obtain ⟨⟩ | ⟨h1', h⟩ := h
    obtain ⟨⟩ | ⟨h2', h⟩ := h
    cases h
    exact posts_ok (R.less (by decide)) ((W3.mono (vw_mono (kps_kp k))).mono (vw_kp _ _)) h1' h2' (by decide)
  have kv4 : Kp (Vw W s3.heap) (Vw W s4.heap) := kb_vw (hcW (n := "world") rfl) k4
  exact next (tk := tkOf c) (sd := sdOf c) (first := firstOf c) (c := c) hdue R hA F4 (W3.mono kv4) rfl (VP.mono _ kv4 c3) rfl (VP.mono _ kv4 t3) rfl (VP.mono _ kv4 h3) rfl h4 C RO T0 T1 hbare hend (U.mono (kv1.trans (kv2.trans (kv3.trans kv4))))
end
end Mine
set_option maxRecDepth 100000
set_option maxHeartbeats 1000000
set_option linter.unusedVariables false
namespace Mine
open PySem PySem.Spec PySem.Calls PyProof.Rows PySem.W PySem.MeetsSeq
theorem fm_top {w : World} {L fa : Addr} {cd : Value} {s₁ : Shared} {h₁ : Heap} {tk : Nat} {m cm : Str → Option Value} {cells : List (Addr × Obj)} (hL : L = s₁.heap.objs.size) (F : Fr s₁.heap L h₁ m) (N : News s₁.heap L h₁ cells) (X : CellsAre cm (lawEnv w L fa cd).cells cells) :
    Fm (lawEnv w L fa cd) s₁ (own (lawEnv w L fa cd)) m cm { s₁ with heap := h₁, toks := tk } := by
  have ok := cellsFrom_ok (lawB w).1.2.names (s₁.heap.push { cls := .type "dict", data := .dict #[] }) (Nat.succ L) [] ⟨(fun n c h => nomatch h), List.Pairwise.nil⟩ (by rw [Heap.size_push, hL]; exact Nat.le_refl _)
  rw [Heap.size_push, ← hL] at ok
  have hap : (lawEnv w L fa cd).cells.Pairwise fun x y => x.2 ≠ y.2 := ok.apart
  have hab : ∀ n c, (n, c) ∈ (lawEnv w L fa cd).cells → L < c := fun n c h => (ok.empty n c h).2
  have C := Cl.of_news (own := []) N X hap hab
  have hown : ∀ b ∈ own (lawEnv w L fa cd), L ≤ b ∧ ∃ o, h₁.get? b = some o := fun b hb => by
    rcases List.mem_cons.mp hb with rfl | hb
    · obtain ⟨o, _, _, e, _⟩ := F.ns
      exact ⟨Nat.le_refl _, o, e⟩
    · obtain ⟨n, _, hn⟩ := List.mem_filterMap.mp hb
      obtain ⟨o, e, _⟩ := C.cell n b hn
      exact ⟨Nat.le_of_lt (hab n b (mem_of_lookup hn)), o, e⟩
  exact ⟨⟨h₁, tk, rfl⟩, F.ns, F.keep, fun b hb => get_size_none _ (hL ▸ (hown b hb).1), C.cell, hap, hab, fun b hb => let ⟨_, o, e⟩ := hown b hb; ⟨b, o, Nat.le_refl _, e⟩, fun b hb => hb, rfl⟩
theorem ints_vall {h : Heap} : ∀ {vs : List Value} {ns : List Int} {as : List Addr}, ReadsAll h vs (ns.map PyData.int) as → VAll h (ns.map fun n => D (.int n)) vs
  | _, [], _, .nil => .nil
  | _, _ :: _, _, .cons a b => .cons ⟨_, a⟩ (ints_vall b)
theorem room_top (env : Env) : Room (callerA.deeper env) 5 := ⟨rfl, by show callerA.depth + 1 + 5 < 900; decide, by show callerA.units + 3 + 500 < 9000; decide⟩
/-- what is asked of the numbers alone -/
structure PureLaw (c : Nat → Nat) : Prop where
  ro : RulesOk (tkOf c) (sdOf c) (rulesP (tkOf c) (sdOf c))
  bare : bareGo (rulesP (tkOf c) (sdOf c)) names6 = sentP (sdOf c)
  ends : ∃ be0 be1 lt0 lt1, TurnOk (tkOf c) (sdOf c) (firstOf c) (runGo (tkOf c) (sdOf c) (firstOf c) (c 4) 2).row (runGo (tkOf c) (sdOf c) (firstOf c) (c 5) 4).row lt0 ((firstOf c).map splitP) be0 ∧
    TurnOk (tkOf c) (sdOf c) (firstOf c) (runGo (tkOf c) (sdOf c) (firstOf c) (c 5) 4).row (runGo (tkOf c) (sdOf c) (firstOf c) (c 4) 2).row lt1 ((firstOf c).map splitP) be1 ∧ ∀ h, h < 3 → uldGo (inBox be0 h).reverse [] (inBox be1 h) = ([], [])
theorem law_top {prog : Program} {w : World} {L fa l : Addr} {cd : Value} {s₁ : Shared} {h₁ : Heap} {tk : Nat} {m cm mg mb : Str → Option Value} {cells : List (Addr × Obj)} {A : Around} {vs : List Value} {ns : List Int} {as : List Addr} (hdue : ∀ xs ys : List Str, uldGo xs.reverse [] ys = (dueL xs ys, dueR xs ys)) (P : ∀ c, PureLaw c)
    (R : Room A 5) (hA : A.frames = some [lawEnv w L fa cd]) (hL : L = s₁.heap.objs.size) (F : Fr s₁.heap L h₁ m) (N : News s₁.heap L h₁ cells) (X : CellsAre cm (lawEnv w L fa cd).cells cells) (hW : Wd (KK w) mg mb s₁.heap) (e1 : cm "script" = some (.ref l)) (hl : s₁.heap.IsList l vs.toArray) (hr : ReadsAll s₁.heap vs (ns.map PyData.int) as) (hn : ns.length ≤ 1000) :
    wpAny (model prog w) A (execs (lawB w).1.1 (lawEnv w L fa cd)) (fun fl s' => fl = .ret (.bool true) ∧ Keeps s₁ s' ∧ ∃ m, s'.heap.Ns L m) (fun _ _ => False) { s₁ with heap := h₁, toks := tk } := by
  have F0 := fm_top (tk := tk) hL F N X
  have kv : Kp s₁.heap (Vw (own (lawEnv w L fa cd)) h₁) := fun b o e => vw_to (F.keep b o e) fun z => by rw [F0.off b z] at e; cases e
  obtain ⟨ro, bare, be0, be1, lt0, lt1, T0, T1, hend⟩ := P (cellOf ns)
  refine law1 hdue R hA F0 (hW.mono kv) e1 (VP.mono _ kv ⟨l, vs.toArray, rfl, hl, ?_⟩) hn ro T0 T1 bare hend ⟨s₁.heap, hW.inK, Nat.le_of_eq hL.symm, kv⟩
  exact ints_vall hr
end Mine
open PySem PySem.Spec PySem.Calls PyProof.Rows PySem.W
theorem Mine.k1 (hdue : ∀ xs ys : List Str, Mine.uldGo xs.reverse [] ys = (Mine.dueL xs ys, Mine.dueR xs ys)) (P : ∀ c, Mine.PureLaw c) : PySem.Challenge.rw_tv0040_01.Holds := by
  refine Mine.hd ?_
  w_strict (k_go0)
  all_goals try k_fold
  rename_i qk ek
  rename_i hI hr hcond htriv K0 hD h₁ tk₁ F o1 o2 o3 o4 o5 o6 o7 hd1 hd2 hd3 hd4 hd5 hd6 hd7 N0 X0
  have hT := ‹Top _ _ _ _ _ _›
  have hK := ‹(Mine.hd.heap_39 _).In _›
  have hl := ‹Heap.IsList _ _ _›
  have hra := ‹ReadsAll _ _ (List.map PyData.int _) _›
  have hgens := ‹Shared.gens _ = #[]›
  refine wpAny_mono (Mine.law_top hdue P (Mine.room_top _) rfl rfl F N0 X0 ⟨hK, hT.g, hT.b, hT.nolimit, hT.builtins⟩ rfl hl hra (by omega)) (fun fl s' h => ?_) (fun _ _ h => h.elim)
  obtain ⟨h1, ⟨h', tk', h2, h2'⟩, m, h3⟩ := h
  subst h1
  subst h2
  show GoodW _ _ _ _ _ (.ok (.ret (.bool true))) _
  refine goodW_bool ⟨h3, h2', Nat.le_refl _⟩ hgens (raisesW_false ?_) ?_
  · wrow_none_raised
  · wrow_post
set_option maxRecDepth 100000
set_option maxHeartbeats 1000000
set_option linter.unusedVariables false
set_option linter.unusedSectionVars false
namespace Mine
open PySem PySem.Spec PySem.Calls PyProof.Rows PySem.W
/-! ## the plain law: taking away -/
section
variable {α : Type} [BEq α] [LawfulBEq α]
/-- of each the first so many are taken away -/
def cutN (t : α → Nat) : List α → List α
  | [] => []
  | y :: ys => if t y = 0 then y :: cutN t ys else cutN (fun z => if z == y then t z - 1 else t z) ys
omit [LawfulBEq α] in
theorem cutN_keep {t : α → Nat} {y : α} {ys : List α} (h : t y = 0) : cutN t (y :: ys) = y :: cutN t ys := by rw [cutN, if_pos h]
omit [LawfulBEq α] in
theorem cutN_drop {t : α → Nat} {y : α} {ys : List α} (h : t y ≠ 0) : cutN t (y :: ys) = cutN (fun z => if z == y then t z - 1 else t z) ys := by rw [cutN, if_neg h]
theorem cutN_congr {t t' : α → Nat} : ∀ {ys : List α}, (∀ a ∈ ys, t a = t' a) → cutN t ys = cutN t' ys
  | [], _ => rfl
  | y :: ys, h => by
    unfold cutN
    rw [← h y (.head _)]
    split
    · rw [cutN_congr fun a ha => h a (.tail _ ha)]
    · refine cutN_congr fun a ha => ?_
      rw [h a (.tail _ ha)]
theorem cutN_append (t : α → Nat) : ∀ (ys zs : List α), cutN t (ys ++ zs) = cutN t ys ++ cutN (fun z => t z - ys.count z) zs := by
  intro ys
  induction ys generalizing t with
  | nil => intro zs; simp [cutN]
  | cons y ys ih =>
    intro zs
    rw [List.cons_append]
    by_cases h0 : t y = 0
    · rw [cutN_keep h0, cutN_keep h0, ih, List.cons_append]
      congr 2
      refine cutN_congr (t := fun z => t z - ys.count z) fun a _ => ?_
      show t a - ys.count a = t a - (y :: ys).count a
      rw [List.count_cons]
      by_cases e : y == a
      · have := eq_of_beq e
        subst this
        omega
      · simp [e]
    · rw [cutN_drop h0, cutN_drop h0, ih]
      congr 1
      refine cutN_congr (t := fun z => (if (z == y) = true then t z - 1 else t z) - ys.count z) (t' := fun z => t z - (y :: ys).count z) fun a _ => ?_
      show (if (a == y) = true then t a - 1 else t a) - ys.count a = t a - (y :: ys).count a
      rw [List.count_cons]
      by_cases e : a = y
      · subst e
        simp
        omega
      · have h1 : (a == y) = false := by simpa using e
        have h2 : (y == a) = false := by simpa using Ne.symm e
        simp [h1, h2]
theorem cutN_count (t : α → Nat) (z : α) : ∀ ys : List α, (cutN t ys).count z = ys.count z - t z := by
  intro ys
  induction ys generalizing t with
  | nil => simp [cutN]
  | cons y ys ih =>
    unfold cutN
    split
    · rename_i h0
      rw [List.count_cons, List.count_cons, ih]
      by_cases e : y == z
      · have := eq_of_beq e
        subst this
        simp; omega
      · simp [e]
    · rename_i h0
      rw [ih, List.count_cons]
      by_cases e : z = y
      · subst e
        simp; omega
      · have h1 : (z == y) = false := by simpa using e
        have h2 : (y == z) = false := by simpa using Ne.symm e
        simp [h1, h2]
theorem cutN_len (t : α → Nat) : ∀ ys : List α, (cutN t ys).length ≤ ys.length := by
  intro ys
  induction ys generalizing t with
  | nil => simp [cutN]
  | cons y ys ih =>
    unfold cutN
    split
    · have := ih t; simp; omega
    · have := ih (fun z => if z == y then t z - 1 else t z); simp; omega
theorem cutN_mem (t : α → Nat) {z : α} : ∀ {ys : List α}, z ∈ cutN t ys → z ∈ ys := by
  intro ys
  induction ys generalizing t with
  | nil => intro h; exact h
  | cons y ys ih =>
    unfold cutN
    split
    · intro h
      rcases List.mem_cons.mp h with rfl | h
      · exact .head _
      · exact .tail _ (ih t h)
    · intro h; exact .tail _ (ih _ h)
theorem cutN_zero : ∀ {t : α → Nat} {ys : List α}, (∀ a ∈ ys, t a = 0) → cutN t ys = ys
  | _, [], _ => rfl
  | t, y :: ys, h => by
    unfold cutN
    rw [if_pos (h y (.head _)), cutN_zero fun a ha => h a (.tail _ ha)]
theorem cutN_nil {t : α → Nat} {ys : List α} (h : ∀ z, ys.count z ≤ t z) : cutN t ys = [] := by
  cases e : cutN t ys with
  | nil => rfl
  | cons a r =>
    have := cutN_count t a ys
    rw [e, List.count_cons_self] at this
    have := h a
    omega
theorem cutN_erase {t : α → Nat} {x : α} : ∀ {ys : List α}, t x < ys.count x → (cutN t ys).erase x = cutN (fun z => if z == x then t z + 1 else t z) ys := by
  intro ys
  induction ys generalizing t with
  | nil => intro h; simp at h
  | cons y ys ih =>
    intro h
    by_cases e : y = x
    · subst e
      by_cases h0 : t y = 0
      · have e1 : cutN t (y :: ys) = y :: cutN t ys := by rw [cutN, if_pos h0]
        have e2 : cutN (fun z => if z == y then t z + 1 else t z) (y :: ys) = cutN (fun z => if z == y then (if z == y then t z + 1 else t z) - 1 else (if z == y then t z + 1 else t z)) ys := by rw [cutN, if_neg (by simp)]
        rw [e1, e2, List.erase_cons_head]
        refine cutN_congr fun a _ => ?_
        by_cases h1 : a == y <;> simp [h1]
      · have e1 : cutN t (y :: ys) = cutN (fun z => if z == y then t z - 1 else t z) ys := by rw [cutN, if_neg h0]
        have e2 : cutN (fun z => if z == y then t z + 1 else t z) (y :: ys) = cutN (fun z => if z == y then (if z == y then t z + 1 else t z) - 1 else (if z == y then t z + 1 else t z)) ys := by rw [cutN, if_neg (by simp)]
        rw [e1, e2, ih (by rw [List.count_cons_self] at h; simp; omega)]
        refine cutN_congr fun a _ => ?_
        by_cases h1 : a == y
        · have := eq_of_beq h1
          subst this
          simp; omega
        · simp [h1]
    · have hyx : (y == x) = false := by simpa using e
      have hc : (y :: ys).count x = ys.count x := by rw [List.count_cons]; simp [hyx]
      rw [hc] at h
      by_cases h0 : t y = 0
      · have e1 : cutN t (y :: ys) = y :: cutN t ys := by rw [cutN, if_pos h0]
        have e2 : cutN (fun z => if z == x then t z + 1 else t z) (y :: ys) = y :: cutN (fun z => if z == x then t z + 1 else t z) ys := by rw [cutN, if_pos (by simp [hyx, h0])]
        rw [e1, e2, List.erase_cons_tail (by simp [hyx]), ih h]
      · have e1 : cutN t (y :: ys) = cutN (fun z => if z == y then t z - 1 else t z) ys := by rw [cutN, if_neg h0]
        have e2 : cutN (fun z => if z == x then t z + 1 else t z) (y :: ys) = cutN (fun z => if z == y then (if z == x then t z + 1 else t z) - 1 else (if z == x then t z + 1 else t z)) ys := by rw [cutN, if_neg (by simp [hyx, h0])]
        have hxy : (x == y) = false := by simpa using Ne.symm e
        rw [e1, e2, ih (by simpa [hxy] using h)]
        refine cutN_congr fun a _ => ?_
        by_cases h1 : a == x
        · have := eq_of_beq h1
          subst this
          simp [hxy]
        · by_cases h2 : a == y <;> simp [h1, h2]
theorem cutN_more {t : α → Nat} {x : α} {ys : List α} (h : ys.count x ≤ t x) : cutN (fun z => if z == x then t z + 1 else t z) ys = cutN t ys := by
  induction ys generalizing t with
  | nil => rfl
  | cons y ys ih =>
    by_cases e : y = x
    · subst e
      rw [List.count_cons_self] at h
      have e1 : cutN t (y :: ys) = cutN (fun z => if z == y then t z - 1 else t z) ys := by rw [cutN, if_neg (by omega)]
      have e2 : cutN (fun z => if z == y then t z + 1 else t z) (y :: ys) = cutN (fun z => if z == y then (if z == y then t z + 1 else t z) - 1 else (if z == y then t z + 1 else t z)) ys := by rw [cutN, if_neg (by simp)]
      rw [e1, e2]
      have := ih (t := fun z => if z == y then t z - 1 else t z) (by simp; omega)
      rw [← this]
      refine cutN_congr fun a _ => ?_
      by_cases h1 : a == y
      · have := eq_of_beq h1
        subst this
        simp; omega
      · simp [h1]
    · have hyx : (y == x) = false := by simpa using e
      have hxy : (x == y) = false := by simpa using Ne.symm e
      have hc : (y :: ys).count x = ys.count x := by rw [List.count_cons]; simp [hyx]
      rw [hc] at h
      by_cases h0 : t y = 0
      · rw [cutN, if_pos (by simp [hyx, h0]), cutN, if_pos h0, ih h]
      · rw [cutN, if_neg (by simp [hyx, h0]), cutN, if_neg h0]
        have := ih (t := fun z => if z == y then t z - 1 else t z) (by simpa [hxy] using h)
        rw [← this]
        refine cutN_congr fun a _ => ?_
        by_cases h1 : a == x
        · have := eq_of_beq h1
          subst this
          simp [hxy]
        · by_cases h2 : a == y <;> simp [h1, h2]
/-- told by places -/
theorem cutN_idx (t : α → Nat) (d : α) : ∀ ys : List α, ((List.range ys.length).filter fun i => decide (t (ys.getD i d) < (ys.take (i + 1)).count (ys.getD i d))).map (fun i => ys.getD i d) = cutN t ys := by
  intro ys
  generalize hn : ys.length = n
  induction n generalizing ys with
  | zero =>
    have : ys = [] := List.eq_nil_of_length_eq_zero hn
    subst this
    rfl
  | succ n ih =>
    obtain ⟨zs, y, rfl⟩ : ∃ zs y, ys = zs ++ [y] := ⟨ys.dropLast, ys.getLast (by intro h; rw [h] at hn; cases hn), (List.dropLast_concat_getLast _).symm⟩
    have hz : zs.length = n := by simpa using hn
    rw [List.range_succ, List.filter_append, List.map_append, cutN_append]
    have e1 : ((List.range n).filter fun i => decide (t ((zs ++ [y]).getD i d) < ((zs ++ [y]).take (i + 1)).count ((zs ++ [y]).getD i d))).map (fun i => (zs ++ [y]).getD i d) = cutN t zs := by
      rw [← ih zs hz]
      have key : ∀ i ∈ List.range n, (zs ++ [y]).getD i d = zs.getD i d ∧ (zs ++ [y]).take (i + 1) = zs.take (i + 1) := fun i hi => by
        have hi := List.mem_range.mp hi
        refine ⟨?_, ?_⟩
        · rw [List.getD_eq_getElem?_getD, List.getD_eq_getElem?_getD, List.getElem?_append_left (by omega)]
        · rw [List.take_append_of_le_length (by omega)]
      have ef : ((List.range n).filter fun i => decide (t ((zs ++ [y]).getD i d) < ((zs ++ [y]).take (i + 1)).count ((zs ++ [y]).getD i d))) = ((List.range n).filter fun i => decide (t (zs.getD i d) < (zs.take (i + 1)).count (zs.getD i d))) := by
        refine List.filter_congr fun i hi => ?_
        rw [(key i hi).1, (key i hi).2]
      rw [ef]
      refine List.map_congr_left fun i hi => ?_
      exact (key i (List.mem_filter.mp hi).1).1
    rw [e1]
    congr 1
    have e2 : (zs ++ [y]).getD n d = y := by
      rw [List.getD_eq_getElem?_getD, List.getElem?_append_right (by omega), hz]
      simp
    have e3 : (zs ++ [y]).take (n + 1) = zs ++ [y] := List.take_of_length_le (by rw [List.length_append, hz]; simp)
    rw [List.filter_cons, e2, e3, List.count_append, List.count_singleton_self]
    by_cases h : t y < zs.count y + 1
    · rw [if_pos (by simpa using h), cutN_keep (by omega)]
      simp only [List.filter_nil, List.map_cons, List.map_nil, e2, cutN]
    · rw [if_neg (by simpa using h), cutN_drop (by omega)]
      simp [cutN]
end
end Mine
set_option maxRecDepth 100000
set_option maxHeartbeats 1000000
set_option linter.unusedVariables false
set_option linter.unusedSectionVars false
namespace Mine
open PySem PySem.Spec PySem.Calls PyProof.Rows PySem.W
/-! ## what unorderable_list_difference tells -/
theorem uldGo_left : ∀ (r ms ys : List Str), (uldGo r ms ys).1 = ms ++ cutN (fun z => ys.count z) r
  | [], ms, ys => by simp [uldGo, cutN]
  | x :: r, ms, ys => by
    unfold uldGo
    by_cases h : ys.contains x = true
    · have hc : ys.count x ≠ 0 := Nat.ne_of_gt (List.count_pos_iff.mpr (by simpa using h))
      rw [if_pos h, uldGo_left r ms _, cutN_drop (t := fun z => ys.count z) hc]
      congr 1
      refine cutN_congr (t := fun z => (ys.erase x).count z) (t' := fun z => if (z == x) = true then ys.count z - 1 else ys.count z) fun a _ => ?_
      show (ys.erase x).count a = _
      rw [List.count_erase]
      by_cases e : a = x
      · subst e; simp
      · have h1 : (a == x) = false := by simpa using e
        have h2 : (x == a) = false := by simpa using Ne.symm e
        simp [h1, h2]
    · have hc : ys.count x = 0 := List.count_eq_zero.mpr (by simpa using h)
      rw [if_neg h, uldGo_left r _ ys, cutN_keep (t := fun z => ys.count z) hc, List.append_assoc]
      rfl
theorem uldGo_right : ∀ (r ms : List Str) (t : Str → Nat) (ys : List Str), (uldGo r ms (cutN t ys)).2 = cutN (fun z => t z + r.count z) ys
  | [], ms, t, ys => by simp [uldGo]
  | x :: r, ms, t, ys => by
    unfold uldGo
    have e : cutN (fun z => t z + (x :: r).count z) ys = cutN (fun z => (if z == x then t z + 1 else t z) + r.count z) ys := by
      refine cutN_congr fun a _ => ?_
      show t a + (x :: r).count a = _
      rw [List.count_cons]
      by_cases e : a = x
      · subst e; simp; omega
      · have h1 : (a == x) = false := by simpa using e
        have h2 : (x == a) = false := by simpa using Ne.symm e
        simp [h1, h2]
    have hcnt := cutN_count t x ys
    by_cases h : (cutN t ys).contains x = true
    · have hc : 0 < (cutN t ys).count x := List.count_pos_iff.mpr (by simpa using h)
      rw [if_pos h, cutN_erase (by omega), uldGo_right r ms _ ys, e]
    · have hc : (cutN t ys).count x = 0 := List.count_eq_zero.mpr (by simpa using h)
      rw [if_neg h]
      have e2 : cutN t ys = cutN (fun z => if z == x then t z + 1 else t z) ys := (cutN_more (by omega)).symm
      rw [e2, uldGo_right r _ _ ys, e]
theorem dueR_cut (xs ys : List Str) : dueR xs ys = cutN (fun z => xs.count z) ys := by
  rw [← cutN_idx (fun z => xs.count z) Str.empty ys]
  unfold dueR
  congr 1
  refine List.filter_congr fun i _ => ?_
  simp only [Int.ofNat_lt]
theorem dueL_cut (xs ys : List Str) : dueL xs ys = cutN (fun z => ys.count z) xs.reverse := by
  rw [← cutN_idx (fun z => ys.count z) Str.empty xs.reverse]
  unfold dueL
  rw [List.length_reverse]
  have key : ∀ i ∈ List.range xs.length, dueG xs i = xs.reverse.getD i Str.empty ∧ ∀ z, (xs.drop (xs.length - 1 - i)).count z = (xs.reverse.take (i + 1)).count z := fun i hi => by
    have hi := List.mem_range.mp hi
    refine ⟨?_, fun z => ?_⟩
    · unfold dueG
      rw [List.getD_eq_getElem?_getD, List.getD_eq_getElem?_getD, List.getElem?_reverse hi]
    · rw [List.take_reverse, List.count_reverse]
      congr 2
      omega
  have ef : ((List.range xs.length).filter fun i => decide (((ys.count (dueG xs i) : Nat) : Int) < ((xs.drop (xs.length - 1 - i)).count (dueG xs i) : Nat))) = ((List.range xs.length).filter fun i => decide (ys.count (xs.reverse.getD i Str.empty) < (xs.reverse.take (i + 1)).count (xs.reverse.getD i Str.empty))) := by
    refine List.filter_congr fun i hi => ?_
    rw [(key i hi).1, (key i hi).2]
    simp only [Int.ofNat_lt]
  rw [ef]
  refine List.map_congr_left fun i hi => ?_
  exact (key i (List.mem_filter.mp hi).1).1
theorem uld_due (xs ys : List Str) : uldGo xs.reverse [] ys = (dueL xs ys, dueR xs ys) := by
  have h1 := uldGo_left xs.reverse [] ys
  have h2 := uldGo_right xs.reverse [] (fun _ => 0) ys
  rw [cutN_zero (t := fun _ => 0) (fun _ _ => rfl)] at h2
  rw [dueL_cut, dueR_cut]
  refine Prod.ext (by rw [h1]; rfl) ?_
  rw [h2]
  refine cutN_congr fun a _ => ?_
  show 0 + xs.reverse.count a = _
  rw [List.count_reverse, Nat.zero_add]
/-! ## the rules -/
theorem filter_const {α β : Type} (f : α → β) (p : β → Bool) (b : Bool) : ∀ {xs : List α}, (∀ x ∈ xs, p (f x) = b) → (xs.map f).filter p = if b then xs.map f else []
  | [], _ => by cases b <;> rfl
  | x :: xs, h => by
    have ih := filter_const f p b (xs := xs) fun y hy => h y (.tail _ hy)
    rw [List.map_cons, List.filter_cons, h x (.head _), ih]
    cases b <;> rfl
theorem three {α : Type} (f : Nat → List α) : (List.range 3).flatMap f = f 0 ++ (f 1 ++ f 2) := by
  simp [List.range_succ]
theorem low_names : ∀ k, k < 3 → Txt.lower (abc k) = abc k ∧ Txt.lower (abc k ++ "-" ++ aBC k) = abc k ++ "-" ++ abc k := by decide +kernel
theorem abc_eq : ∀ k, k < 3 → ∀ h, h < 3 → (abc k == abc h) = decide (k = h) ∧ (abc k ++ "-" ++ abc k == abc h) = false ∧ (abc k == abc h ++ "-" ++ abc h) = false ∧ (abc k ++ "-" ++ abc k == abc h ++ "-" ++ abc h) = decide (k = h) := by decide +kernel
theorem take_filter (tk : Nat → List Str) (p : Str × Str → Bool) (b : Nat → Bool) (hp : ∀ k, k < 3 → ∀ x, p (abc k, x) = b k) : (takeP tk).filter p = (List.range 3).flatMap fun k => if b k then (tk k).map fun x => (abc k, x) else [] := by
  unfold takeP
  rw [three, three, List.filter_append, List.filter_append]
  rw [filter_const _ p (b 0) fun x _ => hp 0 (by decide) x, filter_const _ p (b 1) fun x _ => hp 1 (by decide) x, filter_const _ p (b 2) fun x _ => hp 2 (by decide) x]
theorem sent_filter (sd : Nat → List Str) (p : Str × Str → Bool) (b : Nat → Bool) (hp : ∀ k, k < 3 → ∀ x, p (abc k ++ "-" ++ aBC k, x) = b k) : (sentP sd).filter p = (List.range 3).flatMap fun k => if b k then (sd k).map fun x => (abc k ++ "-" ++ aBC k, x) else [] := by
  unfold sentP
  rw [three, three, List.filter_append, List.filter_append]
  rw [filter_const _ p (b 0) fun x _ => hp 0 (by decide) x, filter_const _ p (b 1) fun x _ => hp 1 (by decide) x, filter_const _ p (b 2) fun x _ => hp 2 (by decide) x]
theorem rules_ok {tk sd : Nat → List Str} {first : List Str} (C : CellsOk tk sd first) : RulesOk tk sd (rulesP tk sd) := by
  obtain ⟨L1, L2⟩ := rulesP_lay C
  refine ⟨fun p hp => ?_, by omega, fun h hh => ?_, fun h hh => ?_⟩
  · rcases List.mem_append.mp hp with hp | hp
    · obtain ⟨k, hk, hp⟩ := List.mem_flatMap.mp hp
      obtain ⟨x, hx, rfl⟩ := List.mem_map.mp hp
      have hk := List.mem_range.mp hk
      have := (low_names k hk).1
      have ha := abc_ok hk
      have hs := (name3 hk).2.2.1
      exact ⟨by show PyData.strOk (Txt.lower (abc k)) = true; rw [this]; exact ha, by show (abc k).cps.size ≤ _; omega, ha, (xy_facts (C.tkok k hk x hx)).1⟩
    · exact sent_fine C.sdok p hp
  · unfold rulesP
    rw [List.filter_append]
    rw [take_filter tk _ (fun k => decide (k = h)) fun k hk x => by show (Txt.lower (abc k) == abc h) = _; rw [(low_names k hk).1]; exact (abc_eq k hk h hh).1]
    rw [sent_filter sd _ (fun k => false) fun k hk x => by show (Txt.lower (abc k ++ "-" ++ aBC k) == abc h) = _; rw [(low_names k hk).2]; exact (abc_eq k hk h hh).2.1]
    have : h = 0 ∨ h = 1 ∨ h = 2 := by omega
    rcases this with rfl | rfl | rfl <;> rw [three, three] <;> simp [List.map_map, Function.comp_def]
  · unfold rulesP
    rw [List.filter_append]
    rw [take_filter tk _ (fun k => false) fun k hk x => by show (Txt.lower (abc k) == abc h ++ "-" ++ abc h) = _; rw [(low_names k hk).1]; exact (abc_eq k hk h hh).2.2.1]
    rw [sent_filter sd _ (fun k => decide (k = h)) fun k hk x => by show (Txt.lower (abc k ++ "-" ++ aBC k) == abc h ++ "-" ++ abc h) = _; rw [(low_names k hk).2]; exact (abc_eq k hk h hh).2.2.2]
    have : h = 0 ∨ h = 1 ∨ h = 2 := by omega
    rcases this with rfl | rfl | rfl <;> rw [three, three] <;> simp [List.map_map, Function.comp_def]
theorem bareGo_all (ps : List (Str × Str)) (names : List Str) : bareGo ps names = ps.filter fun p => names.all fun nm => !(Txt.lower p.1 == Txt.lower nm) := by
  unfold bareGo
  induction names generalizing ps with
  | nil => exact (List.filter_eq_self.mpr fun _ _ => rfl).symm
  | cons a r ih =>
    rw [List.foldl_cons, ih, List.filter_filter]
    refine List.filter_congr fun p _ => ?_
    rw [List.all_cons, Bool.and_comm]
theorem bare_all : ∀ k, k < 3 → (names6.all fun nm => !(Txt.lower (abc k) == Txt.lower nm)) = false ∧ (names6.all fun nm => !(Txt.lower (abc k ++ "-" ++ aBC k) == Txt.lower nm)) = true := by decide +kernel
theorem bare_rules (tk sd : Nat → List Str) : bareGo (rulesP tk sd) names6 = sentP sd := by
  rw [bareGo_all]
  unfold rulesP
  rw [List.filter_append]
  rw [take_filter tk _ (fun k => false) fun k hk x => (bare_all k hk).1]
  rw [sent_filter sd _ (fun k => true) fun k hk x => (bare_all k hk).2]
  rw [three]
  simp [sentP]
end Mine
set_option maxRecDepth 100000
set_option maxHeartbeats 1000000
set_option linter.unusedVariables false
set_option linter.unusedSectionVars false
namespace Mine
open PySem PySem.Spec PySem.Calls PyProof.Rows PySem.W
/-! ## acts -/
def mk (h : Nat) (l : List Str) : List Str := (l.filter fun x => Txt.lower (sign x 0) == abc h).map fun x => sign x 1
theorem mk_append (h : Nat) (l l' : List Str) : mk h (l ++ l') = mk h l ++ mk h l' := by unfold mk; rw [List.filter_append, List.map_append]
theorem came_mk (sd : Nat → List Str) (first : List Str) (row : List Nat) (h : Nat) : cameOf sd first row h = mk h (first ++ row.flatMap sd) := rfl
theorem came_snoc (sd : Nat → List Str) (first : List Str) (row : List Nat) (g h : Nat) : cameOf sd first (row ++ [g]) h = cameOf sd first row h ++ mk h (sd g) := by
  rw [came_mk, came_mk, List.flatMap_append, ← List.append_assoc, mk_append]
  simp
theorem inBox_append (bs cs : List (Str × Str)) (h : Nat) : inBox (bs ++ cs) h = inBox bs h ++ inBox cs h := by unfold inBox; rw [List.filter_append, List.map_append]
theorem inBox_cut {bs : List (Str × Str)} {g h : Nat} (hg : g < 3) (hh : h < 3) : inBox (cut bs g) h = if g = h then [] else inBox bs h := by
  unfold inBox cut
  rw [List.filter_filter]
  have hab := (abc_eq g hg h hh).1
  by_cases e : g = h
  · subst e
    rw [if_pos rfl]
    have : bs.filter (fun p => (Txt.lower p.1 == abc g) && !(Txt.lower p.1 == abc g)) = [] := by
      rw [List.filter_eq_nil_iff]
      intro p _
      cases Txt.lower p.1 == abc g <;> simp
    rw [this]
    rfl
  · rw [if_neg e]
    congr 1
    refine List.filter_congr fun p _ => ?_
    cases h1 : Txt.lower p.1 == abc h with
    | false => rfl
    | true =>
      have h2 := eq_of_beq h1
      rw [h2]
      have : (abc h == abc g) = false := by
        rw [(abc_eq h hh g hg).1]
        simpa using Ne.symm e
      rw [this]
      rfl
theorem inBox_hand {xs : List Str} {g h k : Nat} (hg : g < 3) (hh : h < 3) : inBox (xs.map fun x => (hn k g, x)) h = if g = h then xs else [] := by
  unfold inBox
  rw [filter_const (fun x => (hn k g, x)) (fun p => Txt.lower p.1 == abc h) (decide (g = h)) fun x _ => by show (Txt.lower (hn k g) == abc h) = _; rw [(hn_facts hg k).2.1]; exact (abc_eq g hg h hh).1]
  by_cases e : g = h
  · simp [e, Function.comp_def]
  · simp [e]
theorem inBox_split (l : List Str) (h : Nat) : inBox (l.map splitP) h = mk h l := by
  unfold inBox mk splitP
  rw [List.filter_map, List.map_map]
  rfl
/-- it may act -/
def En (tk sd : Nat → List Str) (first : List Str) (row : List Nat) (g : Nat) : Prop := ∀ x, (row.count g + 1) * (tk g).count x ≤ (cameOf sd first row g).count x
structure Inv (tk sd : Nat → List Str) (first : List Str) (row : List Nat) (bs : List (Str × Str)) : Prop where
  ok : ∀ p ∈ bs, PairOk p
  box : ∀ h, h < 3 → inBox bs h = cutN (fun x => row.count h * (tk h).count x) (cameOf sd first row h)
  fed : ∀ h, h < 3 → ∀ x, row.count h * (tk h).count x ≤ (cameOf sd first row h).count x
theorem inv_init {tk sd : Nat → List Str} {first : List Str} (C : CellsOk tk sd first) : Inv tk sd first [] (first.map splitP) where
  ok := fun p hp => by
    obtain ⟨x, hx, rfl⟩ := List.mem_map.mp hp
    exact split_ok x (C.fi x hx)
  box := fun h _ => by
    rw [inBox_split, cutN_zero fun a _ => by simp]
    rw [came_mk]
    simp
  fed := fun h _ x => by simp
theorem inv_step {tk sd : Nat → List Str} {first : List Str} (C : CellsOk tk sd first) {row : List Nat} {bs : List (Str × Str)} {g : Nat} (hg : g < 3) (I : Inv tk sd first row bs) (e : En tk sd first row g) (k : Nat) : lackOf tk bs g = [] ∧ Inv tk sd first (row ++ [g]) (goStep tk sd k g bs) := by
  have hb := I.box g hg
  have hf := I.fed g hg
  have hcnt : ∀ x, (inBox bs g).count x = (cameOf sd first row g).count x - row.count g * (tk g).count x := fun x => by rw [hb, cutN_count]
  constructor
  · unfold lackOf
    rw [uldGo_left, List.nil_append]
    refine cutN_nil fun z => ?_
    rw [List.count_reverse, hcnt]
    have := e z
    rw [Nat.add_mul] at this
    omega
  · refine ⟨goStep_ok hg (C.sdok g hg) I.ok, fun h hh => ?_, fun h hh x => ?_⟩
    · unfold goStep
      rw [inBox_append, inBox_append, inBox_cut hg hh, inBox_hand hg hh, inBox_split, came_snoc, cutN_append]
      have hc : (row ++ [g]).count h = row.count h + if g = h then 1 else 0 := by
        rw [List.count_append, List.count_singleton]
        by_cases q : g = h <;> simp [q]
      by_cases q : g = h
      · subst q
        rw [if_pos rfl, if_pos rfl, List.nil_append]
        rw [hc, if_pos rfl]
        congr 1
        · unfold restOf
          rw [hb, uldGo_right]
          refine cutN_congr fun a _ => ?_
          show row.count g * (tk g).count a + (tk g).reverse.count a = (row.count g + 1) * (tk g).count a
          rw [List.count_reverse, Nat.add_mul]
          omega
        · rw [cutN_zero fun a _ => ?_]
          show (row.count g + 1) * (tk g).count a - (cameOf sd first row g).count a = 0
          have := e a
          omega
      · rw [if_neg q, if_neg q, List.append_nil, hc, if_neg q, Nat.add_zero]
        congr 1
        · exact I.box h hh
        · rw [cutN_zero fun a _ => ?_]
          show row.count h * (tk h).count a - (cameOf sd first row h).count a = 0
          have := I.fed h hh a
          omega
    · rw [came_snoc, List.count_append, List.count_append, List.count_singleton]
      by_cases q : g = h
      · subst q
        have := e x
        simp
        omega
      · have := I.fed h hh x
        simp [q]
        omega
/-- all acts may be done -/
def Legal (tk sd : Nat → List Str) (first : List Str) (row r : List Nat) : Prop := ∀ j, j < r.length → En tk sd first (row ++ r.take j) (r.getD j 0)
theorem legal_go {tk sd : Nat → List Str} {first : List Str} (C : CellsOk tk sd first) {row r : List Nat} {bs : List (Str × Str)} (h3 : ∀ x ∈ r, x < 3) (I : Inv tk sd first row bs) (Lg : Legal tk sd first row r) :
    ∀ n, n ≤ r.length → Inv tk sd first (row ++ r.take n) (goGo tk sd r bs n)
  | 0, _ => by simpa [goGo] using I
  | n + 1, hn => by
    have ih := legal_go C h3 I Lg n (Nat.le_of_succ_le hn)
    have hg : r.getD n 0 < 3 := by
      rw [List.getD_eq_getElem?_getD, List.getElem?_eq_getElem hn]
      exact h3 _ (List.getElem_mem hn)
    have := (inv_step C hg ih (Lg n hn) n).2
    have e : r.take (n + 1) = r.take n ++ [r.getD n 0] := by
      rw [List.take_add_one, List.getElem?_eq_getElem hn, List.getD_eq_getElem?_getD, List.getElem?_eq_getElem hn]
      rfl
    rw [e, ← List.append_assoc]
    exact this
theorem legal_lack {tk sd : Nat → List Str} {first : List Str} (C : CellsOk tk sd first) {row r : List Nat} {bs : List (Str × Str)} (h3 : ∀ x ∈ r, x < 3) (I : Inv tk sd first row bs) (Lg : Legal tk sd first row r) :
    ∀ n, n < r.length → lackOf tk (goGo tk sd r bs n) (r.getD n 0) = [] := fun n hn => by
  have hg : r.getD n 0 < 3 := by
    rw [List.getD_eq_getElem?_getD, List.getElem?_eq_getElem hn]
    exact h3 _ (List.getElem_mem hn)
  exact (inv_step C hg (legal_go C h3 I Lg n (Nat.le_of_lt hn)) (Lg n hn) n).1
/-! ## counting -/
theorem came_count (sd : Nat → List Str) (first : List Str) (h : Nat) (x : Str) : ∀ {row : List Nat}, (∀ r ∈ row, r < 3) →
    (cameOf sd first row h).count x = (mk h first).count x + row.count 0 * (mk h (sd 0)).count x + row.count 1 * (mk h (sd 1)).count x + row.count 2 * (mk h (sd 2)).count x := by
  intro row
  generalize hn : row.length = n
  induction n generalizing row with
  | zero =>
    intro _
    have : row = [] := List.eq_nil_of_length_eq_zero hn
    subst this
    rw [came_mk]
    simp
  | succ n ih =>
    intro h3
    obtain ⟨zs, y, rfl⟩ : ∃ zs y, row = zs ++ [y] := ⟨row.dropLast, row.getLast (by intro h; rw [h] at hn; cases hn), (List.dropLast_concat_getLast _).symm⟩
    have hz : zs.length = n := by simpa using hn
    have hy := h3 y (by simp)
    rw [came_snoc, List.count_append, ih hz fun r hr => h3 r (by simp [hr])]
    have : y = 0 ∨ y = 1 ∨ y = 2 := by omega
    rcases this with rfl | rfl | rfl <;> simp [List.count_append, Nat.add_mul] <;> omega
theorem came_mono {sd : Nat → List Str} {first : List Str} {h : Nat} {x : Str} {row row' : List Nat} (h3 : ∀ r ∈ row, r < 3) (h3' : ∀ r ∈ row', r < 3) (hc : ∀ z, row.count z ≤ row'.count z) : (cameOf sd first row h).count x ≤ (cameOf sd first row' h).count x := by
  rw [came_count sd first h x h3, came_count sd first h x h3']
  have a := Nat.mul_le_mul_right ((mk h (sd 0)).count x) (hc 0)
  have b := Nat.mul_le_mul_right ((mk h (sd 1)).count x) (hc 1)
  have c := Nat.mul_le_mul_right ((mk h (sd 2)).count x) (hc 2)
  omega
/-! ## two runs -/
theorem cut_legal {tk sd : Nat → List Str} {first : List Str} {r : List Nat} (hr : ∀ x ∈ r, x < 3) : ∀ {q : List Nat}, (∀ x ∈ q, x < 3) → Legal tk sd first [] q → Legal tk sd first r (cutN (fun z => r.count z) q) := by
  intro q
  generalize hn : q.length = n
  induction n generalizing q with
  | zero =>
    intro _ _ j hj
    have : q = [] := List.eq_nil_of_length_eq_zero hn
    subst this
    exact absurd hj (Nat.not_lt_zero _)
  | succ n ih =>
    intro h3 Lg
    obtain ⟨zs, g, rfl⟩ : ∃ zs y, q = zs ++ [y] := ⟨q.dropLast, q.getLast (by intro h; rw [h] at hn; cases hn), (List.dropLast_concat_getLast _).symm⟩
    have hz : zs.length = n := by simpa using hn
    have h3z : ∀ x ∈ zs, x < 3 := fun x hx => h3 x (by simp [hx])
    have LgZ : Legal tk sd first [] zs := fun j hj => by
      have := Lg j (by simp; omega)
      rw [List.getD_eq_getElem?_getD, List.getElem?_append_left hj, List.take_append_of_le_length (Nat.le_of_lt hj)] at this
      rw [List.getD_eq_getElem?_getD]
      exact this
    have ih := ih hz h3z LgZ
    rw [cutN_append]
    have hlast : En tk sd first zs g := by
      have := Lg n (by rw [hn]; exact Nat.lt_succ_self n)
      rw [List.getD_eq_getElem?_getD, List.getElem?_append_right (by omega), hz, List.take_append_of_le_length (by omega), List.take_of_length_le (by omega)] at this
      simpa using this
    generalize hl : cutN (fun z => r.count z) zs = lt at *
    have hlt3 : ∀ x ∈ lt, x < 3 := fun x hx => h3z x (cutN_mem _ (hl ▸ hx))
    have hcl : ∀ z, lt.count z = zs.count z - r.count z := fun z => by rw [← hl, cutN_count]
    by_cases h0 : r.count g - zs.count g = 0
    · rw [cutN_keep (t := fun z => r.count z - zs.count z) h0]
      intro j hj
      have hj : j < lt.length + 1 := by simpa [cutN] using hj
      by_cases hjl : j < lt.length
      · have := ih j hjl
        rw [List.getD_eq_getElem?_getD, List.getElem?_append_left hjl, List.take_append_of_le_length (Nat.le_of_lt hjl)]
        rw [List.getD_eq_getElem?_getD] at this
        exact this
      · have hj : j = lt.length := by omega
        subst hj
        rw [List.getD_eq_getElem?_getD, List.getElem?_append_right (Nat.le_refl _), List.take_append_of_le_length (Nat.le_refl _), List.take_of_length_le (Nat.le_refl _)]
        simp only [Nat.sub_self, List.getElem?_cons_zero, Option.getD_some]
        intro x
        have e := hlast x
        have hge : (r ++ lt).count g = zs.count g := by rw [List.count_append, hcl]; omega
        rw [hge]
        refine Nat.le_trans e (came_mono h3z (fun z hz => (List.mem_append.mp hz).elim (hr z) (hlt3 z)) fun z => ?_)
        rw [List.count_append, hcl]
        omega
    · rw [cutN_drop (t := fun z => r.count z - zs.count z) h0]
      simpa [cutN] using ih
theorem cut_count {r q : List Nat} (z : Nat) : (r ++ cutN (fun z => r.count z) q).count z = max (r.count z) (q.count z) := by
  rw [List.count_append, cutN_count]
  omega
end Mine
set_option maxRecDepth 100000
set_option maxHeartbeats 1000000
set_option linter.unusedVariables false
set_option linter.unusedSectionVars false
namespace Mine
open PySem PySem.Spec PySem.Calls PyProof.Rows PySem.W
/-! ## a run may be done -/
theorem post_lower : ∀ p ∈ posts12, ∀ h, h < 3 → ∀ l, l < 2 → (Txt.lower p == abc h ++ xy l) = ((Txt.lower (sign p 0) == abc h) && (sign p 1 == xy l)) := by decide +kernel
theorem letter_eq : ∀ g, g < 3 → ∀ h, h < 3 → ∀ k, k < 2 → ∀ l, l < 2 → (abc g ++ xy k == abc h ++ xy l) = (decide (g = h) && (xy k == xy l)) := by decide +kernel
theorem ws_mk {h l : Nat} (hh : h < 3) (hl : l < 2) : ∀ {ps : List Str}, (∀ p ∈ ps, p ∈ posts12) → (ps.map Txt.lower).count (abc h ++ xy l) = (mk h ps).count (xy l)
  | [], _ => rfl
  | p :: ps, hp => by
    have ih := ws_mk hh hl (ps := ps) fun q hq => hp q (.tail _ hq)
    have e := post_lower p (hp p (.head _)) h hh l hl
    have em : mk h (p :: ps) = (if Txt.lower (sign p 0) == abc h then [sign p 1] else []) ++ mk h ps := by
      unfold mk
      rw [List.filter_cons]
      split <;> simp
    rw [em, List.map_cons, List.count_cons, ih, e, List.count_append]
    cases h1 : Txt.lower (sign p 0) == abc h with
    | false => simp
    | true =>
      simp only [Bool.true_and, if_true, List.count_singleton]
      omega
theorem xy_two {x : Str} (h : x = xy 0 ∨ x = xy 1) : ∃ k, k < 2 ∧ x = xy k := h.elim (fun e => ⟨0, by decide, e⟩) fun e => ⟨1, by decide, e⟩
theorem letters_count {g h l : Nat} (hg : g < 3) (hh : h < 3) (hl : l < 2) : ∀ {ls : List Str}, (∀ x ∈ ls, x = xy 0 ∨ x = xy 1) → (ls.map fun x => abc g ++ x).count (abc h ++ xy l) = if g = h then ls.count (xy l) else 0
  | [], _ => by simp
  | x :: ls, hx => by
    have ih := letters_count hg hh hl (ls := ls) fun q hq => hx q (.tail _ hq)
    obtain ⟨k, hk, rfl⟩ := xy_two (hx x (.head _))
    have e := letter_eq g hg h hh k hk l hl
    rw [List.map_cons, List.count_cons, ih, e, List.count_cons]
    by_cases q : g = h
    · simp [q]
    · simp [q]
theorem erase_all (g : Nat) : ∀ (ls ws : List Str) (z : Str), (ls.foldl (fun ws l => ws.erase (abc g ++ l)) ws).count z = ws.count z - (ls.map fun x => abc g ++ x).count z
  | [], ws, z => by simp
  | x :: ls, ws, z => by
    rw [List.foldl_cons, erase_all g ls, List.count_erase, List.map_cons, List.count_cons]
    by_cases e : z = abc g ++ x
    · subst e; simp; omega
    · have h1 : (z == abc g ++ x) = false := by simpa using e
      have h2 : (abc g ++ x == z) = false := by simpa using Ne.symm e
      simp [h1, h2]
structure RunI (tk sd : Nat → List Str) (first : List Str) (n : Nat) (x : RunSt) : Prop where
  r3 : ∀ r ∈ x.row, r < 3
  lg : Legal tk sd first [] x.row
  ws : ∀ h, h < 3 → ∀ l, l < 2 → x.ws.count (abc h ++ xy l) + x.row.count h * (tk h).count (xy l) = (cameOf sd first x.row h).count (xy l)
  len : x.row.length ≤ n
theorem legal_snoc {tk sd : Nat → List Str} {first : List Str} {row : List Nat} {g : Nat} (L : Legal tk sd first [] row) (e : En tk sd first row g) : Legal tk sd first [] (row ++ [g]) := by
  intro j hj
  have hj : j < row.length + 1 := by simpa using hj
  by_cases hjl : j < row.length
  · have := L j hjl
    rw [List.getD_eq_getElem?_getD, List.getElem?_append_left hjl, List.take_append_of_le_length (Nat.le_of_lt hjl)]
    rw [List.getD_eq_getElem?_getD] at this
    exact this
  · have hj : j = row.length := by omega
    subst hj
    rw [List.getD_eq_getElem?_getD, List.getElem?_append_right (Nat.le_refl _), List.take_append_of_le_length (Nat.le_refl _), List.take_of_length_le (Nat.le_refl _)]
    simpa using e
theorem run_inv {tk sd : Nat → List Str} {first : List Str} (C : CellsOk tk sd first) (c : Nat) : ∀ n, RunI tk sd first n (runGo tk sd first c n)
  | 0 => ⟨(fun r hr => by cases hr), (fun j hj => absurd hj (Nat.not_lt_zero _)), fun h hh l hl => by
      show (first.map Txt.lower).count _ + 0 * _ = _
      rw [ws_mk hh hl C.fi, came_mk]
      simp [runGo], Nat.le_refl _⟩
  | n + 1 => by
    have ih := run_inv C c n
    show RunI tk sd first (n + 1) (runStep tk sd (runGo tk sd first c n))
    generalize runGo tk sd first c n = x at *
    unfold runStep
    by_cases h0 : ableOf tk x.ws = []
    · rw [if_pos h0]
      exact ⟨ih.r3, ih.lg, ih.ws, Nat.le_succ_of_le ih.len⟩
    · rw [if_neg h0]
      have hlen : 0 < (ableOf tk x.ws).length := List.length_pos_iff.mpr h0
      have hmem : (ableOf tk x.ws).getD (x.c % (ableOf tk x.ws).length) 0 ∈ ableOf tk x.ws := getD_mem (Nat.mod_lt _ hlen)
      generalize (ableOf tk x.ws).getD (x.c % (ableOf tk x.ws).length) 0 = g at *
      have hg := able_lt hmem
      have hab : ∀ l ∈ tk g, (tk g).count l ≤ x.ws.count (abc g ++ l) := fun l hl => by
        have h1 := (List.mem_filter.mp hmem).2
        have h2 : ((tk g).filter fun l => decide (((x.ws.count (abc g ++ l) : Nat) : Int) < ((tk g).count l : Nat))) = [] := by simpa using h1
        have h3 := List.filter_eq_nil_iff.mp h2 l hl
        simp only [decide_eq_true_eq, Int.ofNat_lt] at h3
        omega
      have hEn : En tk sd first x.row g := fun y => by
        by_cases hy : y ∈ tk g
        · obtain ⟨k, hk, rfl⟩ := xy_two (C.tkok g hg y hy)
          have e1 := hab _ hy
          have e2 := ih.ws g hg k hk
          rw [Nat.add_mul]
          omega
        · rw [List.count_eq_zero.mpr hy]
          simp
      refine ⟨fun r hr => ?_, legal_snoc ih.lg hEn, fun h hh l hl => ?_, by simpa using ih.len⟩
      · rcases List.mem_append.mp hr with hr | hr
        · exact ih.r3 r hr
        · rw [List.mem_singleton.mp hr]; exact hg
      · show (takeAll tk g x.ws (tk g).length ++ (sd g).map Txt.lower).count _ + (x.row ++ [g]).count h * _ = (cameOf sd first (x.row ++ [g]) h).count _
        have e2 := ih.ws h hh l hl
        unfold takeAll
        rw [List.take_length, List.count_append, erase_all, letters_count hg hh hl (C.tkok g hg), ws_mk hh hl (C.sdok g hg), came_snoc, List.count_append, List.count_append, List.count_singleton]
        by_cases q : g = h
        · subst q
          have e3 := hEn (xy l)
          rw [Nat.add_mul] at e3
          simp [Nat.add_mul]
          omega
        · simp [q]
          omega
/-! ## the end -/
theorem count_abc {r : List Nat} {a : Nat} (ha : a < 3) (hr : ∀ x ∈ r, x < 3) : (r.map abc).count (abc a) = r.count a := by
  induction r with
  | nil => rfl
  | cons b r ih =>
    have hb := hr b (.head _)
    rw [List.map_cons, List.count_cons, List.count_cons, ih fun x hx => hr x (.tail _ hx), (abc_eq b hb a ha).1]
    by_cases e : b = a <;> simp [e]
theorem cutN_map {t : Str → Nat} {t' : Nat → Nat} {ys : List Nat} (hy : ∀ y ∈ ys, y < 3) (ht : ∀ a, a < 3 → t (abc a) = t' a) : cutN t (ys.map abc) = (cutN t' ys).map abc := by
  induction ys generalizing t t' with
  | nil => rfl
  | cons y ys ih =>
    have hy0 := hy y (.head _)
    have hys : ∀ z ∈ ys, z < 3 := fun z hz => hy z (.tail _ hz)
    rw [List.map_cons]
    by_cases h0 : t (abc y) = 0
    · rw [cutN_keep h0, cutN_keep (by rw [← ht y hy0]; exact h0), List.map_cons, ih hys ht]
    · rw [cutN_drop h0, cutN_drop (t := t') (by rw [← ht y hy0]; exact h0)]
      refine ih hys fun a ha => ?_
      show (if (abc a == abc y) = true then t (abc a) - 1 else t (abc a)) = if (a == y) = true then t' a - 1 else t' a
      rw [(abc_eq a ha y hy0).1, ht a ha]
      by_cases e : a = y <;> simp [e]
theorem boxOf_cut {tk sd : Nat → List Str} {first : List Str} {row : List Nat} {h : Nat} (hh : h < 3) (hr : ∀ x ∈ row, x < 3) : boxOf tk sd first row h = cutN (fun x => row.count h * (tk h).count x) (cameOf sd first row h) := by
  rw [← cutN_idx (fun x => row.count h * (tk h).count x) Str.empty (cameOf sd first row h)]
  unfold boxOf
  rw [count_abc hh hr]
  congr 1
  refine List.filter_congr fun i _ => ?_
  simp only [Int.ofNat_lt]
theorem low6 : ∀ x ∈ names6, (Txt.lower x == abc 0) = true ∧ (Txt.lower x == abc 1) = false ∧ (Txt.lower x == abc 2) = false ∨ (Txt.lower x == abc 0) = false ∧ (Txt.lower x == abc 1) = true ∧ (Txt.lower x == abc 2) = false ∨ (Txt.lower x == abc 0) = false ∧ (Txt.lower x == abc 1) = false ∧ (Txt.lower x == abc 2) = true := by decide +kernel
theorem len3 : ∀ {bs : List (Str × Str)}, (∀ p ∈ bs, PairOk p) → bs.length = (inBox bs 0).length + (inBox bs 1).length + (inBox bs 2).length
  | [], _ => rfl
  | p :: bs, h => by
    have ih := len3 (bs := bs) fun q hq => h q (.tail _ hq)
    have e := low6 p.1 (h p (.head _)).1
    have em : ∀ k, (inBox (p :: bs) k).length = (if Txt.lower p.1 == abc k then 1 else 0) + (inBox bs k).length := fun k => by
      unfold inBox
      rw [List.filter_cons]
      split <;> simp <;> omega
    rw [List.length_cons, em, em, em, ih]
    rcases e with ⟨a, b, c⟩ | ⟨a, b, c⟩ | ⟨a, b, c⟩ <;> rw [a, b, c] <;> simp <;> omega
/-- the boxes at the end -/
def endOf (tk sd : Nat → List Str) (first : List Str) (r r' : List Nat) : List (Str × Str) := goGo tk sd (cutN (fun z => r.count z) r') (goGo tk sd r (first.map splitP) r.length) (cutN (fun z => r.count z) r').length
theorem end_inv {tk sd : Nat → List Str} {first : List Str} (C : CellsOk tk sd first) {r r' : List Nat} (h3 : ∀ x ∈ r, x < 3) (h3' : ∀ x ∈ r', x < 3) (L : Legal tk sd first [] r) (L' : Legal tk sd first [] r') :
    Inv tk sd first r (goGo tk sd r (first.map splitP) r.length) ∧ Inv tk sd first (r ++ cutN (fun z => r.count z) r') (endOf tk sd first r r') := by
  have I1 := legal_go C h3 (inv_init C) L r.length (Nat.le_refl _)
  rw [List.nil_append, List.take_length] at I1
  have hl3 : ∀ x ∈ cutN (fun z => r.count z) r', x < 3 := fun x hx => h3' x (cutN_mem _ hx)
  have I2 := legal_go C hl3 I1 (cut_legal h3 h3' L') (cutN (fun z => r.count z) r').length (Nat.le_refl _)
  rw [List.take_length] at I2
  exact ⟨I1, I2⟩
theorem turn_ok {tk sd : Nat → List Str} {first : List Str} (C : CellsOk tk sd first) {r r' : List Nat} (h3 : ∀ x ∈ r, x < 3) (h3' : ∀ x ∈ r', x < 3) (L : Legal tk sd first [] r) (L' : Legal tk sd first [] r') (hl : r.length + r'.length ≤ 6) :
    TurnOk tk sd first r r' (cutN (fun z => r.count z) r') (first.map splitP) (endOf tk sd first r r') := by
  obtain ⟨I1, I2⟩ := end_inv C h3 h3' L L'
  have hl3 : ∀ x ∈ cutN (fun z => r.count z) r', x < 3 := fun x hx => h3' x (cutN_mem _ hx)
  have hrow : ∀ x ∈ r ++ cutN (fun z => r.count z) r', x < 3 := fun x hx => (List.mem_append.mp hx).elim (h3 x) (hl3 x)
  have hbox : ∀ h, h < 3 → inBox (endOf tk sd first r r') h = boxOf tk sd first (r ++ cutN (fun z => r.count z) r') h := fun h hh => by rw [I2.box h hh, boxOf_cut hh hrow]
  exact {
    later := by
      rw [dueR_cut]
      exact cutN_map h3' fun a ha => count_abc ha h3
    go1 := legal_lack C h3 (inv_init C) L
    go2 := legal_lack C hl3 I1 (cut_legal h3 h3' L')
    beq := rfl
    box := hbox
    len := by
      rw [len3 I2.ok, hbox 0 (by decide), hbox 1 (by decide), hbox 2 (by decide)]
      simp [List.range_succ]
      omega
    r3 := h3
    r3' := h3'
    l3 := hl3
    rl := hl
    ll := cutN_len _ _
    bsok := (inv_init C).ok
    bl := by rw [List.length_map]; exact C.fl }
theorem ends_same {tk sd : Nat → List Str} {first : List Str} (C : CellsOk tk sd first) {r r' : List Nat} (h3 : ∀ x ∈ r, x < 3) (h3' : ∀ x ∈ r', x < 3) (L : Legal tk sd first [] r) (L' : Legal tk sd first [] r') {h : Nat} (hh : h < 3) (x : Str) :
    (inBox (endOf tk sd first r r') h).count x ≤ (inBox (endOf tk sd first r' r) h).count x := by
  obtain ⟨_, I⟩ := end_inv C h3 h3' L L'
  obtain ⟨_, I'⟩ := end_inv C h3' h3 L' L
  have hrow : ∀ x ∈ r ++ cutN (fun z => r.count z) r', x < 3 := fun x hx => (List.mem_append.mp hx).elim (h3 x) fun hx => h3' x (cutN_mem _ hx)
  have hrow' : ∀ x ∈ r' ++ cutN (fun z => r'.count z) r, x < 3 := fun x hx => (List.mem_append.mp hx).elim (h3' x) fun hx => h3 x (cutN_mem _ hx)
  have hc : ∀ z, (r ++ cutN (fun z => r.count z) r').count z = (r' ++ cutN (fun z => r'.count z) r).count z := fun z => by rw [cut_count, cut_count, Nat.max_comm]
  rw [I.box h hh, I'.box h hh, cutN_count, cutN_count, hc h]
  have := came_mono (sd := sd) (first := first) (h := h) (x := x) hrow hrow' fun z => Nat.le_of_eq (hc z)
  omega
theorem pure_law (c : Nat → Nat) : PureLaw c := by
  have C := cells_ok c
  have R0 := run_inv C (c 4) 2
  have R1 := run_inv C (c 5) 4
  have l0 := R0.len
  have l1 := R1.len
  refine ⟨rules_ok C, bare_rules _ _, _, _, _, _, turn_ok C R0.r3 R1.r3 R0.lg R1.lg (by omega), turn_ok C R1.r3 R0.r3 R1.lg R0.lg (by omega), fun h hh => ?_⟩
  have e1 := ends_same C R0.r3 R1.r3 R0.lg R1.lg hh
  have e2 := ends_same C R1.r3 R0.r3 R1.lg R0.lg hh
  generalize inBox (endOf (tkOf c) (sdOf c) (firstOf c) (runGo (tkOf c) (sdOf c) (firstOf c) (c 4) 2).row (runGo (tkOf c) (sdOf c) (firstOf c) (c 5) 4).row) h = xs at *
  generalize inBox (endOf (tkOf c) (sdOf c) (firstOf c) (runGo (tkOf c) (sdOf c) (firstOf c) (c 5) 4).row (runGo (tkOf c) (sdOf c) (firstOf c) (c 4) 2).row) h = ys at *
  rw [uld_due, dueL_cut, dueR_cut]
  refine Prod.ext (cutN_nil fun z => ?_) (cutN_nil fun z => ?_)
  · rw [List.count_reverse]; exact e1 z
  · exact e2 z
end Mine
theorem PySem.Challenge.cw_tv0040_01_holds : PySem.Challenge.rw_tv0040_01.Holds :=
  Mine.k1 Mine.uld_due Mine.pure_law
