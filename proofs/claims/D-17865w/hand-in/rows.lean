section
-- ===== the tables' words, and 'selects' of the private methods out of them =====
def lw_yp : List MethodName := [⟨"java/lang/AbstractStringBuilder", "ensureCapacityInternal", "(I)V"⟩, ⟨"java/lang/AbstractStringBuilder", "putStringAt", "(ILjava/lang/String;)V"⟩, ⟨"java/lang/AbstractStringBuilder", "inflateIfNeededFor", "(Ljava/lang/String;)V"⟩]
def lw_sel : List Cond := lw_yp.map (fun y => Cond.selects "java/lang/StringBuilder" y y)
def lw_tbl : List Cond := tables_1 ++ lw_sel
/-- a private method is selected, whatever the receiver's class -/
theorem sel_priv {C : String} {n : Nat} {y : MethodName} {s : State} {args : Array Value} (hy : y.cls ≠ "java/lang/invoke/MethodHandle" ∧ y.cls ≠ "java/lang/invoke/VarHandle") (hins : (Cond.instantiable C n).before args s = true) (hpriv : (Cond.privateMethod y).before args s = true) (hinst : (Cond.instanceMethod y).before args s = true) (hsame : (Cond.sameMethod y.cls y.cls y.name y.desc).before args s = true) : (Cond.selects C y y).before args s = true := by
  obtain ⟨c, k, hc, hk, -, -, -, -⟩ := Cond.instantiable_spec hins
  obtain ⟨mk, methM, hnamed, hmethM, -, -⟩ := Cond.instanceMethod_spec hinst
  have hfound : s.methodFound? y.cls y.name y.desc = some mk := State.methodFound?_of_named hnamed hy
  obtain ⟨cn, ck, r1, hcn, hck, hni, hf, hn1⟩ := Cond.sameMethod_found hsame
  have hcls : mk.cls = cn := Option.some.inj ((findClass_of_methodNamed hnamed).symm.trans hcn)
  have hsel : selectMethod {} s.vm c mk = .method mk := selectMethod_private hmethM (Cond.privateMethod_at hpriv mk methM hnamed hmethM)
  simp only [Cond.before, Cond.holds, Cond.value, hc, hfound, hnamed, hsel, hcls, hck]
  simp; exact hni

-- ===== ONE list of words for every method: the tables' words that hold all through a run =====
def lw_all : List Cond := lw_tbl.filter goodWord
/-- a word of the tables by its place: claim/WORDS.tsv -/
theorem lw_w {w : Cond} (i : Nat) (h : lw_tbl[i]? = some w) (g : goodWord w = true) : w ∈ lw_all := List.mem_filter.mpr ⟨List.mem_of_getElem? h, g⟩
theorem lw_all_tbl {w : Cond} (h : w ∈ lw_all) : w ∈ lw_tbl := (List.mem_filter.mp h).1
theorem lw_self : GoodIn lw_all lw_all := fun w h => ⟨h, good_of_word (List.mem_filter.mp h).2⟩
/-- a class's field words, by their places -/
theorem lw_in (ws : List Cond) (ps : List Nat) (hp : ws = ps.filterMap (fun i => lw_tbl[i]?)) (hg : ws.all goodWord = true) : ∀ w ∈ ws, w ∈ lw_all := by
  intro w h
  have h1 := List.all_eq_true.mp hg w h
  rw [hp] at h
  obtain ⟨i, -, hi⟩ := List.mem_filterMap.mp h
  exact lw_w i hi h1
/-- the words of a contract for the method y with code b, L locals, answer r -/
abbrev ws_ (y : MethodName) (b : ByteArray) (L : Nat) (r : Option FieldType) : List Cond := Cond.code y b L r :: lw_all
theorem lw_meth {y : MethodName} {b : ByteArray} {L : Nat} {r : Option FieldType} (h : Cond.code y b L r ∈ lw_all) : GoodIn lw_all (ws_ y b L r) := by
  intro w hw
  rcases List.mem_cons.mp hw with e | e
  · rw [e]
    exact lw_self _ h
  · exact lw_self _ e
theorem lw_app {a c : List Cond} (ha : ∀ w ∈ a, w ∈ lw_all) (hc : GoodIn lw_all c) : GoodIn lw_all (a ++ c) := by
  intro w hw
  rcases List.mem_append.mp hw with e | e
  · exact lw_self w (ha w e)
  · exact hc w e
/-- what a call through an object asks: cwV n hts (lw_V ..) -/
theorem lw_V {own : String} {idx : Nat} {C : String} {y : MethodName} {b : ByteArray} {L : Nat} {r : Option FieldType} (h1 : Cond.methodLink own idx y ∈ lw_all) (h2 : Cond.instanceMethod y ∈ lw_all) (h3 : Cond.selects C y y ∈ lw_all) (h4 : Cond.initialized C ∈ lw_all) (h5 : Cond.code y b L r ∈ lw_all) : GoodIn lw_all (wsV own idx C y (ws_ y b L r)) := by
  refine lw_app ?_ (lw_meth h5)
  intro w hw
  simp only [List.mem_cons, List.not_mem_nil, or_false] at hw
  rcases hw with e | e | e | e
  · rw [e]; exact h1
  · rw [e]; exact h2
  · rw [e]; exact h3
  · rw [e]; exact h4
/-- what a static call asks: va_cwS n hts (lw_S ..) -/
theorem lw_S {own : String} {idx : Nat} {y : MethodName} {b : ByteArray} {L : Nat} {r : Option FieldType} (h1 : Cond.methodLink own idx y ∈ lw_all) (h2 : Cond.static y ∈ lw_all) (h3 : Cond.initialized y.cls ∈ lw_all) (h4 : Cond.code y b L r ∈ lw_all) : GoodIn lw_all (va_wsS own idx y (ws_ y b L r)) := by
  refine lw_app ?_ (lw_meth h4)
  intro w hw
  simp only [List.mem_cons, List.not_mem_nil, or_false] at hw
  rcases hw with e | e | e
  · rw [e]; exact h1
  · rw [e]; exact h2
  · rw [e]; exact h3
/-- the words of a contract for a method WITH HANDLERS (hh: its table) -/
abbrev wsW_ (y : MethodName) (b : ByteArray) (L : Nat) (r : Option FieldType) (hh : List (Nat × Nat × Nat × Nat)) : List Cond := Cond.codeWith y b L r hh :: lw_all
theorem lw_methW {y : MethodName} {b : ByteArray} {L : Nat} {r : Option FieldType} {hh : List (Nat × Nat × Nat × Nat)} (h : Cond.codeWith y b L r hh ∈ lw_all) : GoodIn lw_all (wsW_ y b L r hh) := by
  intro w hw
  rcases List.mem_cons.mp hw with e | e
  · rw [e]
    exact lw_self _ h
  · exact lw_self _ e
/-- any list of words by their places (lw_in), good -/
theorem lw_good {ws : List Cond} (h : ∀ w ∈ ws, w ∈ lw_all) : GoodIn lw_all ws := fun w hw => lw_self w (h w hw)
/-- what a call of a method with handlers asks: vx_cwVW n hts (lw_VW ..), vx_cwSW n hts (lw_SW ..) -/
theorem lw_VW {own : String} {idx : Nat} {C : String} {y : MethodName} {b : ByteArray} {L : Nat} {r : Option FieldType} {hh : List (Nat × Nat × Nat × Nat)} (h1 : Cond.methodLink own idx y ∈ lw_all) (h2 : Cond.instanceMethod y ∈ lw_all) (h3 : Cond.selects C y y ∈ lw_all) (h4 : Cond.initialized C ∈ lw_all) (h5 : Cond.codeWith y b L r hh ∈ lw_all) : GoodIn lw_all (wsV own idx C y (wsW_ y b L r hh)) := by
  refine lw_app ?_ (lw_methW h5)
  intro w hw
  simp only [List.mem_cons, List.not_mem_nil, or_false] at hw
  rcases hw with e | e | e | e
  · rw [e]; exact h1
  · rw [e]; exact h2
  · rw [e]; exact h3
  · rw [e]; exact h4
theorem lw_SW {own : String} {idx : Nat} {y : MethodName} {b : ByteArray} {L : Nat} {r : Option FieldType} {hh : List (Nat × Nat × Nat × Nat)} (h1 : Cond.methodLink own idx y ∈ lw_all) (h2 : Cond.static y ∈ lw_all) (h3 : Cond.initialized y.cls ∈ lw_all) (h4 : Cond.codeWith y b L r hh ∈ lw_all) : GoodIn lw_all (va_wsS own idx y (wsW_ y b L r hh)) := by
  refine lw_app ?_ (lw_methW h4)
  intro w hw
  simp only [List.mem_cons, List.not_mem_nil, or_false] at hw
  rcases hw with e | e | e
  · rw [e]; exact h1
  · rw [e]; exact h2
  · rw [e]; exact h3
/-- a word by its place in its run of the tables -/
theorem lw_at {r : List Cond} (hr : ∀ w ∈ r, w ∈ lw_tbl) {w : Cond} (i : Nat) (h : r[i]? = some w) : w ∈ lw_tbl := hr w (List.mem_of_getElem? h)
theorem lw_g {w : Cond} (h : w ∈ lw_tbl) (g : goodWord w = true) : w ∈ lw_all := List.mem_filter.mpr ⟨h, g⟩

theorem lw_m1 : ∀ w ∈ tables_1_1, w ∈ lw_tbl := fun w h => show w ∈ tables_1 ++ lw_sel from List.mem_append_left _ (show w ∈ tables_1 from List.mem_append_left _ h)
theorem lw_m2 : ∀ w ∈ tables_1_2, w ∈ lw_tbl := fun w h => show w ∈ tables_1 ++ lw_sel from List.mem_append_left _ (show w ∈ tables_1 from List.mem_append_right _ (List.mem_append_left _ h))
theorem lw_m3 : ∀ w ∈ tables_1_3, w ∈ lw_tbl := fun w h => show w ∈ tables_1 ++ lw_sel from List.mem_append_left _ (show w ∈ tables_1 from List.mem_append_right _ (List.mem_append_right _ h))
theorem lw_mp : ∀ w ∈ lw_sel, w ∈ lw_tbl := fun w h => show w ∈ tables_1 ++ lw_sel from List.mem_append_right _ h
/-- what a call of an inherited or private method asks -/
theorem lw_U {own C : String} {idx : Nat} {y : MethodName} {b : ByteArray} {L : Nat} {r : Option FieldType} (h1 : Cond.methodLink own idx y ∈ lw_all) (h2 : Cond.sameMethod y.cls y.cls y.name y.desc ∈ lw_all) (h3 : Cond.selects C y y ∈ lw_all) (h4 : Cond.instanceMethod y ∈ lw_all) (h5 : Cond.initialized y.cls ∈ lw_all) (h6 : Cond.code y b L r ∈ lw_all) : GoodIn lw_all (va_wsU own idx C y.cls y y (ws_ y b L r)) := by
  refine lw_app ?_ (lw_meth h6)
  intro w hw
  simp only [List.mem_cons, List.not_mem_nil, or_false] at hw
  rcases hw with e | e | e | e | e
  · rw [e]; exact h1
  · rw [e]; exact h2
  · rw [e]; exact h3
  · rw [e]; exact h4
  · rw [e]; exact h5
theorem lw_O {own C : String} {idx : Nat} {x y : MethodName} {b : ByteArray} {L : Nat} {r : Option FieldType} (h1 : Cond.methodLink own idx x ∈ lw_all) (h2 : Cond.sameMethod x.cls x.cls x.name x.desc ∈ lw_all) (h3 : Cond.instanceMethod x ∈ lw_all) (h4 : Cond.selects C x y ∈ lw_all) (h5 : Cond.instanceMethod y ∈ lw_all) (h6 : Cond.initialized y.cls ∈ lw_all) (h7 : Cond.code y b L r ∈ lw_all) : GoodIn lw_all (va_wsO own idx C x.cls x y (ws_ y b L r)) := by
  refine lw_app ?_ (lw_meth h7)
  intro w hw
  simp only [List.mem_cons, List.not_mem_nil, or_false] at hw
  rcases hw with e | e | e | e | e | e
  · rw [e]; exact h1
  · rw [e]; exact h2
  · rw [e]; exact h3
  · rw [e]; exact h4
  · rw [e]; exact h5
  · rw [e]; exact h6
theorem lw_SU {own : String} {idx : Nat} {y : MethodName} {b : ByteArray} {L : Nat} {r : Option FieldType} (h1 : Cond.methodLink own idx y ∈ lw_all) (h2 : Cond.sameMethod y.cls y.cls y.name y.desc ∈ lw_all) (h3 : Cond.superclass own y.cls ∈ lw_all) (h4 : Cond.instanceMethod y ∈ lw_all) (h5 : Cond.initialized y.cls ∈ lw_all) (h6 : Cond.code y b L r ∈ lw_all) : GoodIn lw_all (va_wsSU own idx y (ws_ y b L r)) := by
  refine lw_app ?_ (lw_meth h6)
  intro w hw
  simp only [List.mem_cons, List.not_mem_nil, or_false] at hw
  rcases hw with e | e | e | e | e
  · rw [e]; exact h1
  · rw [e]; exact h2
  · rw [e]; exact h3
  · rw [e]; exact h4
  · rw [e]; exact h5
theorem lw_F {own C : String} {idx : Nat} {x y : MethodName} {b : ByteArray} {L : Nat} {r : Option FieldType} (h1 : Cond.methodLink own idx x ∈ lw_all) (h2 : Cond.selects C x y ∈ lw_all) (h3 : Cond.instanceMethod y ∈ lw_all) (h4 : Cond.initialized y.cls ∈ lw_all) (h5 : Cond.code y b L r ∈ lw_all) : GoodIn lw_all (va_wsF own idx C x y (ws_ y b L r)) := by
  refine lw_app ?_ (lw_meth h5)
  intro w hw
  simp only [List.mem_cons, List.not_mem_nil, or_false] at hw
  rcases hw with e | e | e | e
  · rw [e]; exact h1
  · rw [e]; exact h2
  · rw [e]; exact h3
  · rw [e]; exact h4

/-! DECODE ROWS BY BYTES: one lemma an opcode; a method's code is cut into short pieces once, and a row reads its own piece alone. -/
set_option maxRecDepth 100000
/-- the code has just these bytes from pc on -/
def DkAt (code : ByteArray) (pc : Nat) (bs : List UInt8) : Prop := ∀ (j : Nat) (b : UInt8), bs[j]? = some b → code.data.toList[pc + j]? = some b
/-- the piece W has the bytes bs from its place j on -/
def dkIn (W : List UInt8) (j : Nat) (bs : List UInt8) : Bool := decide ((W.drop j).take bs.length = bs)
theorem dk_seg {l W T : List UInt8} {o o2 : Nat} (h : l.drop o = W ++ T) (n : Nat) (hn : W.length = n) (ho : o + n = o2) : l.drop o2 = T := by
  subst ho
  rw [← List.drop_drop, h, List.drop_left' hn]
theorem dk_at {code : ByteArray} {W T bs : List UInt8} {o pc : Nat} (h : code.data.toList.drop o = W ++ T) (j : Nat) (hp : o + j = pc) (hw : dkIn W j bs = true) : DkAt code pc bs := by
  subst hp
  intro i b e
  have h1 := of_decide_eq_true hw
  have h2 : i < bs.length := (List.getElem?_eq_some_iff.mp e).1
  have h3 : W[j + i]? = some b := by
    rw [← h1, List.getElem?_take, if_pos h2, List.getElem?_drop] at e
    exact e
  have h4 : j + i < W.length := (List.getElem?_eq_some_iff.mp h3).1
  have h5 : (code.data.toList.drop o)[j + i]? = some b := by
    rw [h, List.getElem?_append_left h4]
    exact h3
  rw [List.getElem?_drop, ← Nat.add_assoc] at h5
  exact h5
theorem dk_u1 {A : ByteArray} {p : Nat} {b : UInt8} (h : A.data.toList[p]? = some b) : (Reader.u1 : Reader DecodeError Nat) A p = .ok (b.toNat, p + 1) := by
  obtain ⟨h1, h2⟩ := List.getElem?_eq_some_iff.mp h
  have h3 : p < A.size := by simpa using h1
  have h4 : A[p]'h3 = b := h2
  have e : (Reader.u1 : Reader DecodeError Nat) A p = (if h : p < A.size then .ok (A[p].toNat, p + 1) else .error (HasTruncated.truncated p)) := by
    show (do if h : p < A.size then do set (p + 1); Pure.pure A[p].toNat else MonadExcept.throw (HasTruncated.truncated p) : Reader DecodeError Nat) A p = _
    by_cases hi : p < A.size
    · rw [dif_pos hi, dif_pos hi]; rfl
    · rw [dif_neg hi, dif_neg hi]; rfl
  rw [e, dif_pos h3, h4]
theorem dk_bind {α β : Type} {r : Reader DecodeError α} {f : α → Reader DecodeError β} {A : ByteArray} {p s : Nat} {a : α} (h : r A p = .ok (a, s)) : (r >>= f) A p = f a A s := by
  show (do let (a, s) ← r A p; f a A s : Except DecodeError (β × Nat)) = _
  rw [h]
  rfl
theorem dk_map {α β : Type} {r : Reader DecodeError α} {g : α → β} {A : ByteArray} {p s : Nat} {a : α} (h : r A p = .ok (a, s)) : (g <$> r) A p = .ok (g a, s) := by
  show (do let (a, s) ← r A p; .ok (g a, s) : Except DecodeError (β × Nat)) = _
  rw [h]
  rfl
theorem dk_u2 {A : ByteArray} {p : Nat} {a b : UInt8} (h : A.data.toList[p]? = some a) (h2 : A.data.toList[p + 1]? = some b) : (Reader.u2 : Reader DecodeError Nat) A p = .ok (a.toNat * 256 + b.toNat, p + 2) := by
  show (Reader.u1 >>= fun hi => Reader.u1 >>= fun lo => Pure.pure (hi * 256 + lo) : Reader DecodeError Nat) A p = _
  rw [dk_bind (dk_u1 h), dk_bind (dk_u1 h2)]
  rfl
theorem dk_of {code : ByteArray} {pc n : Nat} {i : Instr} (h : Decoder.instr pc code pc = .ok (i, pc + n)) : decode code pc = .ok (i, n) := by
  have e : decode code pc = (match Decoder.instr pc code pc with | .error x => .error x | .ok (j, s) => .ok (j, s - pc)) := by
    show (do let (j, s) ← Decoder.instr pc code pc; Pure.pure (j, s - pc) : Except DecodeError (Instr × Nat)) = _
    cases Decoder.instr pc code pc <;> rfl
  rw [e, h]
  show Except.ok (i, pc + n - pc) = _
  rw [Nat.add_sub_cancel_left]
theorem dk_1 {code : ByteArray} {pc : Nat} (h : DkAt code pc [1]) : decode code pc = .ok (.aconst_null, 1) := dk_of ((dk_bind (dk_u1 (h 0 _ rfl))).trans rfl)
theorem dk_2 {code : ByteArray} {pc : Nat} (h : DkAt code pc [2]) : decode code pc = .ok (.iconst (-1), 1) := dk_of ((dk_bind (dk_u1 (h 0 _ rfl))).trans rfl)
theorem dk_3 {code : ByteArray} {pc : Nat} (h : DkAt code pc [3]) : decode code pc = .ok (.iconst 0, 1) := dk_of ((dk_bind (dk_u1 (h 0 _ rfl))).trans rfl)
theorem dk_4 {code : ByteArray} {pc : Nat} (h : DkAt code pc [4]) : decode code pc = .ok (.iconst 1, 1) := dk_of ((dk_bind (dk_u1 (h 0 _ rfl))).trans rfl)
theorem dk_5 {code : ByteArray} {pc : Nat} (h : DkAt code pc [5]) : decode code pc = .ok (.iconst 2, 1) := dk_of ((dk_bind (dk_u1 (h 0 _ rfl))).trans rfl)
theorem dk_6 {code : ByteArray} {pc : Nat} (h : DkAt code pc [6]) : decode code pc = .ok (.iconst 3, 1) := dk_of ((dk_bind (dk_u1 (h 0 _ rfl))).trans rfl)
theorem dk_7 {code : ByteArray} {pc : Nat} (h : DkAt code pc [7]) : decode code pc = .ok (.iconst 4, 1) := dk_of ((dk_bind (dk_u1 (h 0 _ rfl))).trans rfl)
theorem dk_16 {code : ByteArray} {pc : Nat} (a : UInt8) (h : DkAt code pc [16, a]) : decode code pc = .ok (.bipush (Reader.signed 8 a.toNat), 2) := dk_of ((dk_bind (dk_u1 (h 0 _ rfl))).trans ((dk_bind (dk_map (dk_u1 (h 1 _ rfl)))).trans rfl))
theorem dk_17 {code : ByteArray} {pc : Nat} (a b : UInt8) (h : DkAt code pc [17, a, b]) : decode code pc = .ok (.sipush (Reader.signed 16 (a.toNat * 256 + b.toNat)), 3) := dk_of ((dk_bind (dk_u1 (h 0 _ rfl))).trans ((dk_bind (dk_map (dk_u2 (h 1 _ rfl) (h 2 _ rfl)))).trans rfl))
theorem dk_18 {code : ByteArray} {pc : Nat} (a : UInt8) (h : DkAt code pc [18, a]) : decode code pc = .ok (.ldc a.toNat, 2) := dk_of ((dk_bind (dk_u1 (h 0 _ rfl))).trans ((dk_bind (dk_u1 (h 1 _ rfl))).trans rfl))
theorem dk_19 {code : ByteArray} {pc : Nat} (a b : UInt8) (h : DkAt code pc [19, a, b]) : decode code pc = .ok (.ldc_w (a.toNat * 256 + b.toNat), 3) := dk_of ((dk_bind (dk_u1 (h 0 _ rfl))).trans ((dk_bind (dk_u2 (h 1 _ rfl) (h 2 _ rfl))).trans rfl))
theorem dk_21 {code : ByteArray} {pc : Nat} (a : UInt8) (h : DkAt code pc [21, a]) : decode code pc = .ok (.iload a.toNat, 2) := dk_of ((dk_bind (dk_u1 (h 0 _ rfl))).trans ((dk_bind (dk_u1 (h 1 _ rfl))).trans rfl))
theorem dk_25 {code : ByteArray} {pc : Nat} (a : UInt8) (h : DkAt code pc [25, a]) : decode code pc = .ok (.aload a.toNat, 2) := dk_of ((dk_bind (dk_u1 (h 0 _ rfl))).trans ((dk_bind (dk_u1 (h 1 _ rfl))).trans rfl))
theorem dk_26 {code : ByteArray} {pc : Nat} (h : DkAt code pc [26]) : decode code pc = .ok (.iload_n 0, 1) := dk_of ((dk_bind (dk_u1 (h 0 _ rfl))).trans rfl)
theorem dk_27 {code : ByteArray} {pc : Nat} (h : DkAt code pc [27]) : decode code pc = .ok (.iload_n 1, 1) := dk_of ((dk_bind (dk_u1 (h 0 _ rfl))).trans rfl)
theorem dk_28 {code : ByteArray} {pc : Nat} (h : DkAt code pc [28]) : decode code pc = .ok (.iload_n 2, 1) := dk_of ((dk_bind (dk_u1 (h 0 _ rfl))).trans rfl)
theorem dk_29 {code : ByteArray} {pc : Nat} (h : DkAt code pc [29]) : decode code pc = .ok (.iload_n 3, 1) := dk_of ((dk_bind (dk_u1 (h 0 _ rfl))).trans rfl)
theorem dk_42 {code : ByteArray} {pc : Nat} (h : DkAt code pc [42]) : decode code pc = .ok (.aload_n 0, 1) := dk_of ((dk_bind (dk_u1 (h 0 _ rfl))).trans rfl)
theorem dk_43 {code : ByteArray} {pc : Nat} (h : DkAt code pc [43]) : decode code pc = .ok (.aload_n 1, 1) := dk_of ((dk_bind (dk_u1 (h 0 _ rfl))).trans rfl)
theorem dk_44 {code : ByteArray} {pc : Nat} (h : DkAt code pc [44]) : decode code pc = .ok (.aload_n 2, 1) := dk_of ((dk_bind (dk_u1 (h 0 _ rfl))).trans rfl)
theorem dk_45 {code : ByteArray} {pc : Nat} (h : DkAt code pc [45]) : decode code pc = .ok (.aload_n 3, 1) := dk_of ((dk_bind (dk_u1 (h 0 _ rfl))).trans rfl)
theorem dk_46 {code : ByteArray} {pc : Nat} (h : DkAt code pc [46]) : decode code pc = .ok (.iaload, 1) := dk_of ((dk_bind (dk_u1 (h 0 _ rfl))).trans rfl)
theorem dk_51 {code : ByteArray} {pc : Nat} (h : DkAt code pc [51]) : decode code pc = .ok (.baload, 1) := dk_of ((dk_bind (dk_u1 (h 0 _ rfl))).trans rfl)
theorem dk_52 {code : ByteArray} {pc : Nat} (h : DkAt code pc [52]) : decode code pc = .ok (.caload, 1) := dk_of ((dk_bind (dk_u1 (h 0 _ rfl))).trans rfl)
theorem dk_54 {code : ByteArray} {pc : Nat} (a : UInt8) (h : DkAt code pc [54, a]) : decode code pc = .ok (.istore a.toNat, 2) := dk_of ((dk_bind (dk_u1 (h 0 _ rfl))).trans ((dk_bind (dk_u1 (h 1 _ rfl))).trans rfl))
theorem dk_58 {code : ByteArray} {pc : Nat} (a : UInt8) (h : DkAt code pc [58, a]) : decode code pc = .ok (.astore a.toNat, 2) := dk_of ((dk_bind (dk_u1 (h 0 _ rfl))).trans ((dk_bind (dk_u1 (h 1 _ rfl))).trans rfl))
theorem dk_60 {code : ByteArray} {pc : Nat} (h : DkAt code pc [60]) : decode code pc = .ok (.istore_n 1, 1) := dk_of ((dk_bind (dk_u1 (h 0 _ rfl))).trans rfl)
theorem dk_61 {code : ByteArray} {pc : Nat} (h : DkAt code pc [61]) : decode code pc = .ok (.istore_n 2, 1) := dk_of ((dk_bind (dk_u1 (h 0 _ rfl))).trans rfl)
theorem dk_62 {code : ByteArray} {pc : Nat} (h : DkAt code pc [62]) : decode code pc = .ok (.istore_n 3, 1) := dk_of ((dk_bind (dk_u1 (h 0 _ rfl))).trans rfl)
theorem dk_76 {code : ByteArray} {pc : Nat} (h : DkAt code pc [76]) : decode code pc = .ok (.astore_n 1, 1) := dk_of ((dk_bind (dk_u1 (h 0 _ rfl))).trans rfl)
theorem dk_77 {code : ByteArray} {pc : Nat} (h : DkAt code pc [77]) : decode code pc = .ok (.astore_n 2, 1) := dk_of ((dk_bind (dk_u1 (h 0 _ rfl))).trans rfl)
theorem dk_78 {code : ByteArray} {pc : Nat} (h : DkAt code pc [78]) : decode code pc = .ok (.astore_n 3, 1) := dk_of ((dk_bind (dk_u1 (h 0 _ rfl))).trans rfl)
theorem dk_79 {code : ByteArray} {pc : Nat} (h : DkAt code pc [79]) : decode code pc = .ok (.iastore, 1) := dk_of ((dk_bind (dk_u1 (h 0 _ rfl))).trans rfl)
theorem dk_84 {code : ByteArray} {pc : Nat} (h : DkAt code pc [84]) : decode code pc = .ok (.bastore, 1) := dk_of ((dk_bind (dk_u1 (h 0 _ rfl))).trans rfl)
theorem dk_85 {code : ByteArray} {pc : Nat} (h : DkAt code pc [85]) : decode code pc = .ok (.castore, 1) := dk_of ((dk_bind (dk_u1 (h 0 _ rfl))).trans rfl)
theorem dk_87 {code : ByteArray} {pc : Nat} (h : DkAt code pc [87]) : decode code pc = .ok (.pop, 1) := dk_of ((dk_bind (dk_u1 (h 0 _ rfl))).trans rfl)
theorem dk_89 {code : ByteArray} {pc : Nat} (h : DkAt code pc [89]) : decode code pc = .ok (.dup, 1) := dk_of ((dk_bind (dk_u1 (h 0 _ rfl))).trans rfl)
theorem dk_90 {code : ByteArray} {pc : Nat} (h : DkAt code pc [90]) : decode code pc = .ok (.dup_x1, 1) := dk_of ((dk_bind (dk_u1 (h 0 _ rfl))).trans rfl)
theorem dk_96 {code : ByteArray} {pc : Nat} (h : DkAt code pc [96]) : decode code pc = .ok (.iadd, 1) := dk_of ((dk_bind (dk_u1 (h 0 _ rfl))).trans rfl)
theorem dk_100 {code : ByteArray} {pc : Nat} (h : DkAt code pc [100]) : decode code pc = .ok (.isub, 1) := dk_of ((dk_bind (dk_u1 (h 0 _ rfl))).trans rfl)
theorem dk_112 {code : ByteArray} {pc : Nat} (h : DkAt code pc [112]) : decode code pc = .ok (.irem, 1) := dk_of ((dk_bind (dk_u1 (h 0 _ rfl))).trans rfl)
theorem dk_120 {code : ByteArray} {pc : Nat} (h : DkAt code pc [120]) : decode code pc = .ok (.ishl, 1) := dk_of ((dk_bind (dk_u1 (h 0 _ rfl))).trans rfl)
theorem dk_122 {code : ByteArray} {pc : Nat} (h : DkAt code pc [122]) : decode code pc = .ok (.ishr, 1) := dk_of ((dk_bind (dk_u1 (h 0 _ rfl))).trans rfl)
theorem dk_124 {code : ByteArray} {pc : Nat} (h : DkAt code pc [124]) : decode code pc = .ok (.iushr, 1) := dk_of ((dk_bind (dk_u1 (h 0 _ rfl))).trans rfl)
theorem dk_126 {code : ByteArray} {pc : Nat} (h : DkAt code pc [126]) : decode code pc = .ok (.iand, 1) := dk_of ((dk_bind (dk_u1 (h 0 _ rfl))).trans rfl)
theorem dk_128 {code : ByteArray} {pc : Nat} (h : DkAt code pc [128]) : decode code pc = .ok (.ior, 1) := dk_of ((dk_bind (dk_u1 (h 0 _ rfl))).trans rfl)
theorem dk_130 {code : ByteArray} {pc : Nat} (h : DkAt code pc [130]) : decode code pc = .ok (.ixor, 1) := dk_of ((dk_bind (dk_u1 (h 0 _ rfl))).trans rfl)
theorem dk_132 {code : ByteArray} {pc : Nat} (a b : UInt8) (h : DkAt code pc [132, a, b]) : decode code pc = .ok (.iinc a.toNat (Reader.signed 8 b.toNat), 3) := dk_of ((dk_bind (dk_u1 (h 0 _ rfl))).trans ((dk_bind (dk_u1 (h 1 _ rfl))).trans ((dk_bind (dk_map (dk_u1 (h 2 _ rfl)))).trans rfl)))
theorem dk_145 {code : ByteArray} {pc : Nat} (h : DkAt code pc [145]) : decode code pc = .ok (.i2b, 1) := dk_of ((dk_bind (dk_u1 (h 0 _ rfl))).trans rfl)
theorem dk_146 {code : ByteArray} {pc : Nat} (h : DkAt code pc [146]) : decode code pc = .ok (.i2c, 1) := dk_of ((dk_bind (dk_u1 (h 0 _ rfl))).trans rfl)
theorem dk_153 {code : ByteArray} {pc : Nat} (a b : UInt8) (h : DkAt code pc [153, a, b]) : decode code pc = .ok (.ifCond .eq (Reader.signed 16 (a.toNat * 256 + b.toNat)), 3) := dk_of ((dk_bind (dk_u1 (h 0 _ rfl))).trans ((dk_bind (dk_map (dk_u2 (h 1 _ rfl) (h 2 _ rfl)))).trans rfl))
theorem dk_154 {code : ByteArray} {pc : Nat} (a b : UInt8) (h : DkAt code pc [154, a, b]) : decode code pc = .ok (.ifCond .ne (Reader.signed 16 (a.toNat * 256 + b.toNat)), 3) := dk_of ((dk_bind (dk_u1 (h 0 _ rfl))).trans ((dk_bind (dk_map (dk_u2 (h 1 _ rfl) (h 2 _ rfl)))).trans rfl))
theorem dk_155 {code : ByteArray} {pc : Nat} (a b : UInt8) (h : DkAt code pc [155, a, b]) : decode code pc = .ok (.ifCond .lt (Reader.signed 16 (a.toNat * 256 + b.toNat)), 3) := dk_of ((dk_bind (dk_u1 (h 0 _ rfl))).trans ((dk_bind (dk_map (dk_u2 (h 1 _ rfl) (h 2 _ rfl)))).trans rfl))
theorem dk_156 {code : ByteArray} {pc : Nat} (a b : UInt8) (h : DkAt code pc [156, a, b]) : decode code pc = .ok (.ifCond .ge (Reader.signed 16 (a.toNat * 256 + b.toNat)), 3) := dk_of ((dk_bind (dk_u1 (h 0 _ rfl))).trans ((dk_bind (dk_map (dk_u2 (h 1 _ rfl) (h 2 _ rfl)))).trans rfl))
theorem dk_158 {code : ByteArray} {pc : Nat} (a b : UInt8) (h : DkAt code pc [158, a, b]) : decode code pc = .ok (.ifCond .le (Reader.signed 16 (a.toNat * 256 + b.toNat)), 3) := dk_of ((dk_bind (dk_u1 (h 0 _ rfl))).trans ((dk_bind (dk_map (dk_u2 (h 1 _ rfl) (h 2 _ rfl)))).trans rfl))
theorem dk_159 {code : ByteArray} {pc : Nat} (a b : UInt8) (h : DkAt code pc [159, a, b]) : decode code pc = .ok (.if_icmp .eq (Reader.signed 16 (a.toNat * 256 + b.toNat)), 3) := dk_of ((dk_bind (dk_u1 (h 0 _ rfl))).trans ((dk_bind (dk_map (dk_u2 (h 1 _ rfl) (h 2 _ rfl)))).trans rfl))
theorem dk_160 {code : ByteArray} {pc : Nat} (a b : UInt8) (h : DkAt code pc [160, a, b]) : decode code pc = .ok (.if_icmp .ne (Reader.signed 16 (a.toNat * 256 + b.toNat)), 3) := dk_of ((dk_bind (dk_u1 (h 0 _ rfl))).trans ((dk_bind (dk_map (dk_u2 (h 1 _ rfl) (h 2 _ rfl)))).trans rfl))
theorem dk_161 {code : ByteArray} {pc : Nat} (a b : UInt8) (h : DkAt code pc [161, a, b]) : decode code pc = .ok (.if_icmp .lt (Reader.signed 16 (a.toNat * 256 + b.toNat)), 3) := dk_of ((dk_bind (dk_u1 (h 0 _ rfl))).trans ((dk_bind (dk_map (dk_u2 (h 1 _ rfl) (h 2 _ rfl)))).trans rfl))
theorem dk_162 {code : ByteArray} {pc : Nat} (a b : UInt8) (h : DkAt code pc [162, a, b]) : decode code pc = .ok (.if_icmp .ge (Reader.signed 16 (a.toNat * 256 + b.toNat)), 3) := dk_of ((dk_bind (dk_u1 (h 0 _ rfl))).trans ((dk_bind (dk_map (dk_u2 (h 1 _ rfl) (h 2 _ rfl)))).trans rfl))
theorem dk_163 {code : ByteArray} {pc : Nat} (a b : UInt8) (h : DkAt code pc [163, a, b]) : decode code pc = .ok (.if_icmp .gt (Reader.signed 16 (a.toNat * 256 + b.toNat)), 3) := dk_of ((dk_bind (dk_u1 (h 0 _ rfl))).trans ((dk_bind (dk_map (dk_u2 (h 1 _ rfl) (h 2 _ rfl)))).trans rfl))
theorem dk_164 {code : ByteArray} {pc : Nat} (a b : UInt8) (h : DkAt code pc [164, a, b]) : decode code pc = .ok (.if_icmp .le (Reader.signed 16 (a.toNat * 256 + b.toNat)), 3) := dk_of ((dk_bind (dk_u1 (h 0 _ rfl))).trans ((dk_bind (dk_map (dk_u2 (h 1 _ rfl) (h 2 _ rfl)))).trans rfl))
theorem dk_166 {code : ByteArray} {pc : Nat} (a b : UInt8) (h : DkAt code pc [166, a, b]) : decode code pc = .ok (.if_acmp .ne (Reader.signed 16 (a.toNat * 256 + b.toNat)), 3) := dk_of ((dk_bind (dk_u1 (h 0 _ rfl))).trans ((dk_bind (dk_map (dk_u2 (h 1 _ rfl) (h 2 _ rfl)))).trans rfl))
theorem dk_167 {code : ByteArray} {pc : Nat} (a b : UInt8) (h : DkAt code pc [167, a, b]) : decode code pc = .ok (.goto (Reader.signed 16 (a.toNat * 256 + b.toNat)), 3) := dk_of ((dk_bind (dk_u1 (h 0 _ rfl))).trans ((dk_bind (dk_map (dk_u2 (h 1 _ rfl) (h 2 _ rfl)))).trans rfl))
theorem dk_172 {code : ByteArray} {pc : Nat} (h : DkAt code pc [172]) : decode code pc = .ok (.ireturn, 1) := dk_of ((dk_bind (dk_u1 (h 0 _ rfl))).trans rfl)
theorem dk_176 {code : ByteArray} {pc : Nat} (h : DkAt code pc [176]) : decode code pc = .ok (.areturn, 1) := dk_of ((dk_bind (dk_u1 (h 0 _ rfl))).trans rfl)
theorem dk_177 {code : ByteArray} {pc : Nat} (h : DkAt code pc [177]) : decode code pc = .ok (.return_, 1) := dk_of ((dk_bind (dk_u1 (h 0 _ rfl))).trans rfl)
theorem dk_178 {code : ByteArray} {pc : Nat} (a b : UInt8) (h : DkAt code pc [178, a, b]) : decode code pc = .ok (.getstatic (a.toNat * 256 + b.toNat), 3) := dk_of ((dk_bind (dk_u1 (h 0 _ rfl))).trans ((dk_bind (dk_u2 (h 1 _ rfl) (h 2 _ rfl))).trans rfl))
theorem dk_180 {code : ByteArray} {pc : Nat} (a b : UInt8) (h : DkAt code pc [180, a, b]) : decode code pc = .ok (.getfield (a.toNat * 256 + b.toNat), 3) := dk_of ((dk_bind (dk_u1 (h 0 _ rfl))).trans ((dk_bind (dk_u2 (h 1 _ rfl) (h 2 _ rfl))).trans rfl))
theorem dk_181 {code : ByteArray} {pc : Nat} (a b : UInt8) (h : DkAt code pc [181, a, b]) : decode code pc = .ok (.putfield (a.toNat * 256 + b.toNat), 3) := dk_of ((dk_bind (dk_u1 (h 0 _ rfl))).trans ((dk_bind (dk_u2 (h 1 _ rfl) (h 2 _ rfl))).trans rfl))
theorem dk_182 {code : ByteArray} {pc : Nat} (a b : UInt8) (h : DkAt code pc [182, a, b]) : decode code pc = .ok (.invokevirtual (a.toNat * 256 + b.toNat), 3) := dk_of ((dk_bind (dk_u1 (h 0 _ rfl))).trans ((dk_bind (dk_u2 (h 1 _ rfl) (h 2 _ rfl))).trans rfl))
theorem dk_183 {code : ByteArray} {pc : Nat} (a b : UInt8) (h : DkAt code pc [183, a, b]) : decode code pc = .ok (.invokespecial (a.toNat * 256 + b.toNat), 3) := dk_of ((dk_bind (dk_u1 (h 0 _ rfl))).trans ((dk_bind (dk_u2 (h 1 _ rfl) (h 2 _ rfl))).trans rfl))
theorem dk_184 {code : ByteArray} {pc : Nat} (a b : UInt8) (h : DkAt code pc [184, a, b]) : decode code pc = .ok (.invokestatic (a.toNat * 256 + b.toNat), 3) := dk_of ((dk_bind (dk_u1 (h 0 _ rfl))).trans ((dk_bind (dk_u2 (h 1 _ rfl) (h 2 _ rfl))).trans rfl))
theorem dk_187 {code : ByteArray} {pc : Nat} (a b : UInt8) (h : DkAt code pc [187, a, b]) : decode code pc = .ok (.new (a.toNat * 256 + b.toNat), 3) := dk_of ((dk_bind (dk_u1 (h 0 _ rfl))).trans ((dk_bind (dk_u2 (h 1 _ rfl) (h 2 _ rfl))).trans rfl))
theorem dk_188_5 {code : ByteArray} {pc : Nat} (h : DkAt code pc [188, 5]) : decode code pc = .ok (.newarray .char, 2) := dk_of ((dk_bind (dk_u1 (h 0 _ rfl))).trans ((dk_bind (dk_u1 (h 1 _ rfl))).trans rfl))
theorem dk_188_8 {code : ByteArray} {pc : Nat} (h : DkAt code pc [188, 8]) : decode code pc = .ok (.newarray .byte, 2) := dk_of ((dk_bind (dk_u1 (h 0 _ rfl))).trans ((dk_bind (dk_u1 (h 1 _ rfl))).trans rfl))
theorem dk_188_10 {code : ByteArray} {pc : Nat} (h : DkAt code pc [188, 10]) : decode code pc = .ok (.newarray .int, 2) := dk_of ((dk_bind (dk_u1 (h 0 _ rfl))).trans ((dk_bind (dk_u1 (h 1 _ rfl))).trans rfl))
theorem dk_190 {code : ByteArray} {pc : Nat} (h : DkAt code pc [190]) : decode code pc = .ok (.arraylength, 1) := dk_of ((dk_bind (dk_u1 (h 0 _ rfl))).trans rfl)
theorem dk_191 {code : ByteArray} {pc : Nat} (h : DkAt code pc [191]) : decode code pc = .ok (.athrow, 1) := dk_of ((dk_bind (dk_u1 (h 0 _ rfl))).trans rfl)
theorem dk_192 {code : ByteArray} {pc : Nat} (a b : UInt8) (h : DkAt code pc [192, a, b]) : decode code pc = .ok (.checkcast (a.toNat * 256 + b.toNat), 3) := dk_of ((dk_bind (dk_u1 (h 0 _ rfl))).trans ((dk_bind (dk_u2 (h 1 _ rfl) (h 2 _ rfl))).trans rfl))
theorem dk_199 {code : ByteArray} {pc : Nat} (a b : UInt8) (h : DkAt code pc [199, a, b]) : decode code pc = .ok (.ifnonnull (Reader.signed 16 (a.toNat * 256 + b.toNat)), 3) := dk_of ((dk_bind (dk_u1 (h 0 _ rfl))).trans ((dk_bind (dk_map (dk_u2 (h 1 _ rfl) (h 2 _ rfl)))).trans rfl))

/-! java/lang/String -/
set_option maxRecDepth 100000
def RJ0 : String := "java/lang/String"
def TJ0 : u_T := fun k => match k with
  | 0 => ("java/lang/String", "value", "[B", true)
  | 1 => ("java/lang/String", "coder", "B", true)
  | 2 => ("java/lang/String", "hash", "I", false)
  | _ => ("java/lang/String", "hashIsZero", "Z", false)
def tyJ0 : Nat → FieldType := fun k => match k with
  | 0 => .array .byte
  | 1 => .byte
  | 2 => .int
  | _ => .boolean
abbrev wsJ00 : List Cond := u_ws RJ0 TJ0 4
theorem nmJ0 : ∀ a, a < 4 → ∀ b, b < 4 → a ≠ b → (TJ0 a).2.1 ≠ (TJ0 b).2.1 := by decide +kernel
theorem tyJ0_ok : ∀ k, k < 4 → parseFieldDescriptor (TJ0 k).2.2.1 = some (tyJ0 k) := by decide +kernel
abbrev cJ0_length : ByteArray := prog_11_method_54_code
def yJ0_length : MethodName := ⟨RJ0, "length", "()I"⟩
def dkwJ0_length_0 : List UInt8 := [42, 180, 0, 9, 190, 42, 182, 1, 79, 122, 172]
abbrev dktJ0_length_0 : List UInt8 := dkwJ0_length_0 ++ []
theorem dksJ0_length_0 : cJ0_length.data.toList.drop 0 = dktJ0_length_0 := by decide +kernel
theorem dJ0_length_0 : decode cJ0_length 0 = .ok (.aload_n 0, 1) := dk_42 (dk_at dksJ0_length_0 0 rfl rfl)
theorem dJ0_length_1 : decode cJ0_length 1 = .ok (.getfield 9, 3) := dk_180 0 9 (dk_at dksJ0_length_0 1 rfl rfl)
theorem dJ0_length_4 : decode cJ0_length 4 = .ok (.arraylength, 1) := dk_190 (dk_at dksJ0_length_0 4 rfl rfl)
theorem dJ0_length_5 : decode cJ0_length 5 = .ok (.aload_n 0, 1) := dk_42 (dk_at dksJ0_length_0 5 rfl rfl)
theorem dJ0_length_6 : decode cJ0_length 6 = .ok (.invokevirtual 335, 3) := dk_182 1 79 (dk_at dksJ0_length_0 6 rfl rfl)
theorem dJ0_length_9 : decode cJ0_length 9 = .ok (.ishr, 1) := dk_122 (dk_at dksJ0_length_0 9 rfl rfl)
theorem dJ0_length_10 : decode cJ0_length 10 = .ok (.ireturn, 1) := dk_172 (dk_at dksJ0_length_0 10 rfl rfl)
abbrev cJ0_coder : ByteArray := prog_11_method_152_code
def yJ0_coder : MethodName := ⟨RJ0, "coder", "()B"⟩
def dkwJ0_coder_0 : List UInt8 := [178, 0, 38, 153, 0, 10, 42, 180, 0, 15, 167, 0, 4, 4, 172]
abbrev dktJ0_coder_0 : List UInt8 := dkwJ0_coder_0 ++ []
theorem dksJ0_coder_0 : cJ0_coder.data.toList.drop 0 = dktJ0_coder_0 := by decide +kernel
theorem dJ0_coder_0 : decode cJ0_coder 0 = .ok (.getstatic 38, 3) := dk_178 0 38 (dk_at dksJ0_coder_0 0 rfl rfl)
theorem dJ0_coder_3 : decode cJ0_coder 3 = .ok (.ifCond .eq 10, 3) := dk_153 0 10 (dk_at dksJ0_coder_0 3 rfl rfl)
theorem dJ0_coder_6 : decode cJ0_coder 6 = .ok (.aload_n 0, 1) := dk_42 (dk_at dksJ0_coder_0 6 rfl rfl)
theorem dJ0_coder_7 : decode cJ0_coder 7 = .ok (.getfield 15, 3) := dk_180 0 15 (dk_at dksJ0_coder_0 7 rfl rfl)
theorem dJ0_coder_10 : decode cJ0_coder 10 = .ok (.goto 4, 3) := dk_167 0 4 (dk_at dksJ0_coder_0 10 rfl rfl)
theorem dJ0_coder_13 : decode cJ0_coder 13 = .ok (.iconst 1, 1) := dk_4 (dk_at dksJ0_coder_0 13 rfl rfl)
theorem dJ0_coder_14 : decode cJ0_coder 14 = .ok (.ireturn, 1) := dk_172 (dk_at dksJ0_coder_0 14 rfl rfl)
abbrev cJ0_checkBoundsBeginEnd : ByteArray := prog_11_method_158_code
def yJ0_checkBoundsBeginEnd : MethodName := ⟨RJ0, "checkBoundsBeginEnd", "(III)V"⟩
def dkwJ0_checkBoundsBeginEnd_0 : List UInt8 := [26, 27, 28, 178, 4, 29, 184, 4, 38, 87, 177]
abbrev dktJ0_checkBoundsBeginEnd_0 : List UInt8 := dkwJ0_checkBoundsBeginEnd_0 ++ []
theorem dksJ0_checkBoundsBeginEnd_0 : cJ0_checkBoundsBeginEnd.data.toList.drop 0 = dktJ0_checkBoundsBeginEnd_0 := by decide +kernel
theorem dJ0_checkBoundsBeginEnd_0 : decode cJ0_checkBoundsBeginEnd 0 = .ok (.iload_n 0, 1) := dk_26 (dk_at dksJ0_checkBoundsBeginEnd_0 0 rfl rfl)
theorem dJ0_checkBoundsBeginEnd_1 : decode cJ0_checkBoundsBeginEnd 1 = .ok (.iload_n 1, 1) := dk_27 (dk_at dksJ0_checkBoundsBeginEnd_0 1 rfl rfl)
theorem dJ0_checkBoundsBeginEnd_2 : decode cJ0_checkBoundsBeginEnd 2 = .ok (.iload_n 2, 1) := dk_28 (dk_at dksJ0_checkBoundsBeginEnd_0 2 rfl rfl)
theorem dJ0_checkBoundsBeginEnd_3 : decode cJ0_checkBoundsBeginEnd 3 = .ok (.getstatic 1053, 3) := dk_178 4 29 (dk_at dksJ0_checkBoundsBeginEnd_0 3 rfl rfl)
theorem dJ0_checkBoundsBeginEnd_6 : decode cJ0_checkBoundsBeginEnd 6 = .ok (.invokestatic 1062, 3) := dk_184 4 38 (dk_at dksJ0_checkBoundsBeginEnd_0 6 rfl rfl)
theorem dJ0_checkBoundsBeginEnd_9 : decode cJ0_checkBoundsBeginEnd 9 = .ok (.pop, 1) := dk_87 (dk_at dksJ0_checkBoundsBeginEnd_0 9 rfl rfl)
theorem dJ0_checkBoundsBeginEnd_10 : decode cJ0_checkBoundsBeginEnd 10 = .ok (.return_, 1) := dk_177 (dk_at dksJ0_checkBoundsBeginEnd_0 10 rfl rfl)
abbrev cJ0_getBytes : ByteArray := prog_11_method_147_code
def yJ0_getBytes : MethodName := ⟨RJ0, "getBytes", "([BIB)V"⟩
def dkwJ0_getBytes_1 : List UInt8 := [184, 0, 212, 167, 0, 18, 42, 180, 0, 9, 3, 43, 28, 42, 180, 0, 9, 190, 184, 0, 106, 177]
abbrev dktJ0_getBytes_1 : List UInt8 := dkwJ0_getBytes_1 ++ []
def dkwJ0_getBytes_0 : List UInt8 := [42, 182, 1, 79, 29, 160, 0, 23, 42, 180, 0, 9, 3, 43, 28, 29, 120, 42, 180, 0, 9, 190]
abbrev dktJ0_getBytes_0 : List UInt8 := dkwJ0_getBytes_0 ++ dktJ0_getBytes_1
theorem dksJ0_getBytes_0 : cJ0_getBytes.data.toList.drop 0 = dktJ0_getBytes_0 := by decide +kernel
theorem dksJ0_getBytes_1 : cJ0_getBytes.data.toList.drop 22 = dktJ0_getBytes_1 := dk_seg dksJ0_getBytes_0 22 rfl rfl
theorem dJ0_getBytes_0 : decode cJ0_getBytes 0 = .ok (.aload_n 0, 1) := dk_42 (dk_at dksJ0_getBytes_0 0 rfl rfl)
theorem dJ0_getBytes_1 : decode cJ0_getBytes 1 = .ok (.invokevirtual 335, 3) := dk_182 1 79 (dk_at dksJ0_getBytes_0 1 rfl rfl)
theorem dJ0_getBytes_4 : decode cJ0_getBytes 4 = .ok (.iload_n 3, 1) := dk_29 (dk_at dksJ0_getBytes_0 4 rfl rfl)
theorem dJ0_getBytes_5 : decode cJ0_getBytes 5 = .ok (.if_icmp .ne 23, 3) := dk_160 0 23 (dk_at dksJ0_getBytes_0 5 rfl rfl)
theorem dJ0_getBytes_8 : decode cJ0_getBytes 8 = .ok (.aload_n 0, 1) := dk_42 (dk_at dksJ0_getBytes_0 8 rfl rfl)
theorem dJ0_getBytes_9 : decode cJ0_getBytes 9 = .ok (.getfield 9, 3) := dk_180 0 9 (dk_at dksJ0_getBytes_0 9 rfl rfl)
theorem dJ0_getBytes_12 : decode cJ0_getBytes 12 = .ok (.iconst 0, 1) := dk_3 (dk_at dksJ0_getBytes_0 12 rfl rfl)
theorem dJ0_getBytes_13 : decode cJ0_getBytes 13 = .ok (.aload_n 1, 1) := dk_43 (dk_at dksJ0_getBytes_0 13 rfl rfl)
theorem dJ0_getBytes_14 : decode cJ0_getBytes 14 = .ok (.iload_n 2, 1) := dk_28 (dk_at dksJ0_getBytes_0 14 rfl rfl)
theorem dJ0_getBytes_15 : decode cJ0_getBytes 15 = .ok (.iload_n 3, 1) := dk_29 (dk_at dksJ0_getBytes_0 15 rfl rfl)
theorem dJ0_getBytes_16 : decode cJ0_getBytes 16 = .ok (.ishl, 1) := dk_120 (dk_at dksJ0_getBytes_0 16 rfl rfl)
theorem dJ0_getBytes_17 : decode cJ0_getBytes 17 = .ok (.aload_n 0, 1) := dk_42 (dk_at dksJ0_getBytes_0 17 rfl rfl)
theorem dJ0_getBytes_18 : decode cJ0_getBytes 18 = .ok (.getfield 9, 3) := dk_180 0 9 (dk_at dksJ0_getBytes_0 18 rfl rfl)
theorem dJ0_getBytes_21 : decode cJ0_getBytes 21 = .ok (.arraylength, 1) := dk_190 (dk_at dksJ0_getBytes_0 21 rfl rfl)
theorem dJ0_getBytes_22 : decode cJ0_getBytes 22 = .ok (.invokestatic 212, 3) := dk_184 0 212 (dk_at dksJ0_getBytes_1 0 rfl rfl)
theorem dJ0_getBytes_25 : decode cJ0_getBytes 25 = .ok (.goto 18, 3) := dk_167 0 18 (dk_at dksJ0_getBytes_1 3 rfl rfl)
theorem dJ0_getBytes_28 : decode cJ0_getBytes 28 = .ok (.aload_n 0, 1) := dk_42 (dk_at dksJ0_getBytes_1 6 rfl rfl)
theorem dJ0_getBytes_29 : decode cJ0_getBytes 29 = .ok (.getfield 9, 3) := dk_180 0 9 (dk_at dksJ0_getBytes_1 7 rfl rfl)
theorem dJ0_getBytes_32 : decode cJ0_getBytes 32 = .ok (.iconst 0, 1) := dk_3 (dk_at dksJ0_getBytes_1 10 rfl rfl)
theorem dJ0_getBytes_33 : decode cJ0_getBytes 33 = .ok (.aload_n 1, 1) := dk_43 (dk_at dksJ0_getBytes_1 11 rfl rfl)
theorem dJ0_getBytes_34 : decode cJ0_getBytes 34 = .ok (.iload_n 2, 1) := dk_28 (dk_at dksJ0_getBytes_1 12 rfl rfl)
theorem dJ0_getBytes_35 : decode cJ0_getBytes 35 = .ok (.aload_n 0, 1) := dk_42 (dk_at dksJ0_getBytes_1 13 rfl rfl)
theorem dJ0_getBytes_36 : decode cJ0_getBytes 36 = .ok (.getfield 9, 3) := dk_180 0 9 (dk_at dksJ0_getBytes_1 14 rfl rfl)
theorem dJ0_getBytes_39 : decode cJ0_getBytes 39 = .ok (.arraylength, 1) := dk_190 (dk_at dksJ0_getBytes_1 17 rfl rfl)
theorem dJ0_getBytes_40 : decode cJ0_getBytes 40 = .ok (.invokestatic 106, 3) := dk_184 0 106 (dk_at dksJ0_getBytes_1 18 rfl rfl)
theorem dJ0_getBytes_43 : decode cJ0_getBytes 43 = .ok (.return_, 1) := dk_177 (dk_at dksJ0_getBytes_1 21 rfl rfl)
abbrev cJ0_checkIndex : ByteArray := prog_11_method_155_code
def yJ0_checkIndex : MethodName := ⟨RJ0, "checkIndex", "(II)V"⟩
def dkwJ0_checkIndex_0 : List UInt8 := [26, 27, 178, 4, 29, 184, 4, 35, 87, 177]
abbrev dktJ0_checkIndex_0 : List UInt8 := dkwJ0_checkIndex_0 ++ []
theorem dksJ0_checkIndex_0 : cJ0_checkIndex.data.toList.drop 0 = dktJ0_checkIndex_0 := by decide +kernel
theorem dJ0_checkIndex_0 : decode cJ0_checkIndex 0 = .ok (.iload_n 0, 1) := dk_26 (dk_at dksJ0_checkIndex_0 0 rfl rfl)
theorem dJ0_checkIndex_1 : decode cJ0_checkIndex 1 = .ok (.iload_n 1, 1) := dk_27 (dk_at dksJ0_checkIndex_0 1 rfl rfl)
theorem dJ0_checkIndex_2 : decode cJ0_checkIndex 2 = .ok (.getstatic 1053, 3) := dk_178 4 29 (dk_at dksJ0_checkIndex_0 2 rfl rfl)
theorem dJ0_checkIndex_5 : decode cJ0_checkIndex 5 = .ok (.invokestatic 1059, 3) := dk_184 4 35 (dk_at dksJ0_checkIndex_0 5 rfl rfl)
theorem dJ0_checkIndex_8 : decode cJ0_checkIndex 8 = .ok (.pop, 1) := dk_87 (dk_at dksJ0_checkIndex_0 8 rfl rfl)
theorem dJ0_checkIndex_9 : decode cJ0_checkIndex 9 = .ok (.return_, 1) := dk_177 (dk_at dksJ0_checkIndex_0 9 rfl rfl)
abbrev cJ0_init : ByteArray := prog_11_method_53_code
def yJ0_init : MethodName := ⟨RJ0, "<init>", "(Ljava/lang/StringBuilder;)V"⟩
def dkwJ0_init_0 : List UInt8 := [42, 43, 1, 183, 1, 233, 177]
abbrev dktJ0_init_0 : List UInt8 := dkwJ0_init_0 ++ []
theorem dksJ0_init_0 : cJ0_init.data.toList.drop 0 = dktJ0_init_0 := by decide +kernel
theorem dJ0_init_0 : decode cJ0_init 0 = .ok (.aload_n 0, 1) := dk_42 (dk_at dksJ0_init_0 0 rfl rfl)
theorem dJ0_init_1 : decode cJ0_init 1 = .ok (.aload_n 1, 1) := dk_43 (dk_at dksJ0_init_0 1 rfl rfl)
theorem dJ0_init_2 : decode cJ0_init 2 = .ok (.aconst_null, 1) := dk_1 (dk_at dksJ0_init_0 2 rfl rfl)
theorem dJ0_init_3 : decode cJ0_init 3 = .ok (.invokespecial 489, 3) := dk_183 1 233 (dk_at dksJ0_init_0 3 rfl rfl)
theorem dJ0_init_6 : decode cJ0_init 6 = .ok (.return_, 1) := dk_177 (dk_at dksJ0_init_0 6 rfl rfl)
abbrev cJ0_init_2 : ByteArray := prog_11_method_150_code
def yJ0_init_2 : MethodName := ⟨RJ0, "<init>", "(Ljava/lang/AbstractStringBuilder;Ljava/lang/Void;)V"⟩
def dkwJ0_init_2_4 : List UInt8 := [181, 0, 9, 177]
abbrev dktJ0_init_2_4 : List UInt8 := dkwJ0_init_2_4 ++ []
def dkwJ0_init_2_3 : List UInt8 := [184, 0, 47, 181, 0, 15, 177, 42, 4, 181, 0, 15, 42, 45, 3, 21, 4, 4, 120, 184, 0, 54]
abbrev dktJ0_init_2_3 : List UInt8 := dkwJ0_init_2_3 ++ dktJ0_init_2_4
def dkwJ0_init_2_2 : List UInt8 := [180, 4, 24, 153, 0, 28, 42, 45, 3, 21, 4, 184, 4, 27, 181, 0, 9, 42, 42, 180, 0, 9, 21, 4]
abbrev dktJ0_init_2_2 : List UInt8 := dkwJ0_init_2_2 ++ dktJ0_init_2_3
def dkwJ0_init_2_1 : List UInt8 := [181, 0, 15, 42, 45, 3, 21, 4, 184, 0, 54, 181, 0, 9, 167, 0, 59, 178, 0, 38, 153, 0, 35, 43]
abbrev dktJ0_init_2_1 : List UInt8 := dkwJ0_init_2_1 ++ dktJ0_init_2_2
def dkwJ0_init_2_0 : List UInt8 := [42, 183, 0, 1, 43, 182, 2, 40, 78, 43, 182, 2, 37, 54, 4, 43, 182, 4, 23, 153, 0, 22, 42, 3]
abbrev dktJ0_init_2_0 : List UInt8 := dkwJ0_init_2_0 ++ dktJ0_init_2_1
theorem dksJ0_init_2_0 : cJ0_init_2.data.toList.drop 0 = dktJ0_init_2_0 := by decide +kernel
theorem dksJ0_init_2_1 : cJ0_init_2.data.toList.drop 24 = dktJ0_init_2_1 := dk_seg dksJ0_init_2_0 24 rfl rfl
theorem dksJ0_init_2_2 : cJ0_init_2.data.toList.drop 48 = dktJ0_init_2_2 := dk_seg dksJ0_init_2_1 24 rfl rfl
theorem dksJ0_init_2_3 : cJ0_init_2.data.toList.drop 72 = dktJ0_init_2_3 := dk_seg dksJ0_init_2_2 24 rfl rfl
theorem dksJ0_init_2_4 : cJ0_init_2.data.toList.drop 94 = dktJ0_init_2_4 := dk_seg dksJ0_init_2_3 22 rfl rfl
theorem dJ0_init_2_0 : decode cJ0_init_2 0 = .ok (.aload_n 0, 1) := dk_42 (dk_at dksJ0_init_2_0 0 rfl rfl)
theorem dJ0_init_2_1 : decode cJ0_init_2 1 = .ok (.invokespecial 1, 3) := dk_183 0 1 (dk_at dksJ0_init_2_0 1 rfl rfl)
theorem dJ0_init_2_4 : decode cJ0_init_2 4 = .ok (.aload_n 1, 1) := dk_43 (dk_at dksJ0_init_2_0 4 rfl rfl)
theorem dJ0_init_2_5 : decode cJ0_init_2 5 = .ok (.invokevirtual 552, 3) := dk_182 2 40 (dk_at dksJ0_init_2_0 5 rfl rfl)
theorem dJ0_init_2_8 : decode cJ0_init_2 8 = .ok (.astore_n 3, 1) := dk_78 (dk_at dksJ0_init_2_0 8 rfl rfl)
theorem dJ0_init_2_9 : decode cJ0_init_2 9 = .ok (.aload_n 1, 1) := dk_43 (dk_at dksJ0_init_2_0 9 rfl rfl)
theorem dJ0_init_2_10 : decode cJ0_init_2 10 = .ok (.invokevirtual 549, 3) := dk_182 2 37 (dk_at dksJ0_init_2_0 10 rfl rfl)
theorem dJ0_init_2_13 : decode cJ0_init_2 13 = .ok (.istore 4, 2) := dk_54 4 (dk_at dksJ0_init_2_0 13 rfl rfl)
theorem dJ0_init_2_15 : decode cJ0_init_2 15 = .ok (.aload_n 1, 1) := dk_43 (dk_at dksJ0_init_2_0 15 rfl rfl)
theorem dJ0_init_2_16 : decode cJ0_init_2 16 = .ok (.invokevirtual 1047, 3) := dk_182 4 23 (dk_at dksJ0_init_2_0 16 rfl rfl)
theorem dJ0_init_2_19 : decode cJ0_init_2 19 = .ok (.ifCond .eq 22, 3) := dk_153 0 22 (dk_at dksJ0_init_2_0 19 rfl rfl)
theorem dJ0_init_2_22 : decode cJ0_init_2 22 = .ok (.aload_n 0, 1) := dk_42 (dk_at dksJ0_init_2_0 22 rfl rfl)
theorem dJ0_init_2_23 : decode cJ0_init_2 23 = .ok (.iconst 0, 1) := dk_3 (dk_at dksJ0_init_2_0 23 rfl rfl)
theorem dJ0_init_2_24 : decode cJ0_init_2 24 = .ok (.putfield 15, 3) := dk_181 0 15 (dk_at dksJ0_init_2_1 0 rfl rfl)
theorem dJ0_init_2_27 : decode cJ0_init_2 27 = .ok (.aload_n 0, 1) := dk_42 (dk_at dksJ0_init_2_1 3 rfl rfl)
theorem dJ0_init_2_28 : decode cJ0_init_2 28 = .ok (.aload_n 3, 1) := dk_45 (dk_at dksJ0_init_2_1 4 rfl rfl)
theorem dJ0_init_2_29 : decode cJ0_init_2 29 = .ok (.iconst 0, 1) := dk_3 (dk_at dksJ0_init_2_1 5 rfl rfl)
theorem dJ0_init_2_30 : decode cJ0_init_2 30 = .ok (.iload 4, 2) := dk_21 4 (dk_at dksJ0_init_2_1 6 rfl rfl)
theorem dJ0_init_2_32 : decode cJ0_init_2 32 = .ok (.invokestatic 54, 3) := dk_184 0 54 (dk_at dksJ0_init_2_1 8 rfl rfl)
theorem dJ0_init_2_35 : decode cJ0_init_2 35 = .ok (.putfield 9, 3) := dk_181 0 9 (dk_at dksJ0_init_2_1 11 rfl rfl)
theorem dJ0_init_2_38 : decode cJ0_init_2 38 = .ok (.goto 59, 3) := dk_167 0 59 (dk_at dksJ0_init_2_1 14 rfl rfl)
theorem dJ0_init_2_41 : decode cJ0_init_2 41 = .ok (.getstatic 38, 3) := dk_178 0 38 (dk_at dksJ0_init_2_1 17 rfl rfl)
theorem dJ0_init_2_44 : decode cJ0_init_2 44 = .ok (.ifCond .eq 35, 3) := dk_153 0 35 (dk_at dksJ0_init_2_1 20 rfl rfl)
theorem dJ0_init_2_47 : decode cJ0_init_2 47 = .ok (.aload_n 1, 1) := dk_43 (dk_at dksJ0_init_2_1 23 rfl rfl)
theorem dJ0_init_2_48 : decode cJ0_init_2 48 = .ok (.getfield 1048, 3) := dk_180 4 24 (dk_at dksJ0_init_2_2 0 rfl rfl)
theorem dJ0_init_2_51 : decode cJ0_init_2 51 = .ok (.ifCond .eq 28, 3) := dk_153 0 28 (dk_at dksJ0_init_2_2 3 rfl rfl)
theorem dJ0_init_2_54 : decode cJ0_init_2 54 = .ok (.aload_n 0, 1) := dk_42 (dk_at dksJ0_init_2_2 6 rfl rfl)
theorem dJ0_init_2_55 : decode cJ0_init_2 55 = .ok (.aload_n 3, 1) := dk_45 (dk_at dksJ0_init_2_2 7 rfl rfl)
theorem dJ0_init_2_56 : decode cJ0_init_2 56 = .ok (.iconst 0, 1) := dk_3 (dk_at dksJ0_init_2_2 8 rfl rfl)
theorem dJ0_init_2_57 : decode cJ0_init_2 57 = .ok (.iload 4, 2) := dk_21 4 (dk_at dksJ0_init_2_2 9 rfl rfl)
theorem dJ0_init_2_59 : decode cJ0_init_2 59 = .ok (.invokestatic 1051, 3) := dk_184 4 27 (dk_at dksJ0_init_2_2 11 rfl rfl)
theorem dJ0_init_2_62 : decode cJ0_init_2 62 = .ok (.putfield 9, 3) := dk_181 0 9 (dk_at dksJ0_init_2_2 14 rfl rfl)
theorem dJ0_init_2_65 : decode cJ0_init_2 65 = .ok (.aload_n 0, 1) := dk_42 (dk_at dksJ0_init_2_2 17 rfl rfl)
theorem dJ0_init_2_66 : decode cJ0_init_2 66 = .ok (.aload_n 0, 1) := dk_42 (dk_at dksJ0_init_2_2 18 rfl rfl)
theorem dJ0_init_2_67 : decode cJ0_init_2 67 = .ok (.getfield 9, 3) := dk_180 0 9 (dk_at dksJ0_init_2_2 19 rfl rfl)
theorem dJ0_init_2_70 : decode cJ0_init_2 70 = .ok (.iload 4, 2) := dk_21 4 (dk_at dksJ0_init_2_2 22 rfl rfl)
theorem dJ0_init_2_72 : decode cJ0_init_2 72 = .ok (.invokestatic 47, 3) := dk_184 0 47 (dk_at dksJ0_init_2_3 0 rfl rfl)
theorem dJ0_init_2_75 : decode cJ0_init_2 75 = .ok (.putfield 15, 3) := dk_181 0 15 (dk_at dksJ0_init_2_3 3 rfl rfl)
theorem dJ0_init_2_78 : decode cJ0_init_2 78 = .ok (.return_, 1) := dk_177 (dk_at dksJ0_init_2_3 6 rfl rfl)
theorem dJ0_init_2_79 : decode cJ0_init_2 79 = .ok (.aload_n 0, 1) := dk_42 (dk_at dksJ0_init_2_3 7 rfl rfl)
theorem dJ0_init_2_80 : decode cJ0_init_2 80 = .ok (.iconst 1, 1) := dk_4 (dk_at dksJ0_init_2_3 8 rfl rfl)
theorem dJ0_init_2_81 : decode cJ0_init_2 81 = .ok (.putfield 15, 3) := dk_181 0 15 (dk_at dksJ0_init_2_3 9 rfl rfl)
theorem dJ0_init_2_84 : decode cJ0_init_2 84 = .ok (.aload_n 0, 1) := dk_42 (dk_at dksJ0_init_2_3 12 rfl rfl)
theorem dJ0_init_2_85 : decode cJ0_init_2 85 = .ok (.aload_n 3, 1) := dk_45 (dk_at dksJ0_init_2_3 13 rfl rfl)
theorem dJ0_init_2_86 : decode cJ0_init_2 86 = .ok (.iconst 0, 1) := dk_3 (dk_at dksJ0_init_2_3 14 rfl rfl)
theorem dJ0_init_2_87 : decode cJ0_init_2 87 = .ok (.iload 4, 2) := dk_21 4 (dk_at dksJ0_init_2_3 15 rfl rfl)
theorem dJ0_init_2_89 : decode cJ0_init_2 89 = .ok (.iconst 1, 1) := dk_4 (dk_at dksJ0_init_2_3 17 rfl rfl)
theorem dJ0_init_2_90 : decode cJ0_init_2 90 = .ok (.ishl, 1) := dk_120 (dk_at dksJ0_init_2_3 18 rfl rfl)
theorem dJ0_init_2_91 : decode cJ0_init_2 91 = .ok (.invokestatic 54, 3) := dk_184 0 54 (dk_at dksJ0_init_2_3 19 rfl rfl)
theorem dJ0_init_2_94 : decode cJ0_init_2 94 = .ok (.putfield 9, 3) := dk_181 0 9 (dk_at dksJ0_init_2_4 0 rfl rfl)
theorem dJ0_init_2_97 : decode cJ0_init_2 97 = .ok (.return_, 1) := dk_177 (dk_at dksJ0_init_2_4 3 rfl rfl)
abbrev cJ0_charAt : ByteArray := prog_11_method_56_code
def yJ0_charAt : MethodName := ⟨RJ0, "charAt", "(I)C"⟩
def dkwJ0_charAt_1 : List UInt8 := [172]
abbrev dktJ0_charAt_1 : List UInt8 := dkwJ0_charAt_1 ++ []
def dkwJ0_charAt_0 : List UInt8 := [42, 182, 1, 236, 153, 0, 12, 42, 180, 0, 9, 27, 184, 1, 239, 172, 42, 180, 0, 9, 27, 184, 1, 242]
abbrev dktJ0_charAt_0 : List UInt8 := dkwJ0_charAt_0 ++ dktJ0_charAt_1
theorem dksJ0_charAt_0 : cJ0_charAt.data.toList.drop 0 = dktJ0_charAt_0 := by decide +kernel
theorem dksJ0_charAt_1 : cJ0_charAt.data.toList.drop 24 = dktJ0_charAt_1 := dk_seg dksJ0_charAt_0 24 rfl rfl
theorem dJ0_charAt_0 : decode cJ0_charAt 0 = .ok (.aload_n 0, 1) := dk_42 (dk_at dksJ0_charAt_0 0 rfl rfl)
theorem dJ0_charAt_1 : decode cJ0_charAt 1 = .ok (.invokevirtual 492, 3) := dk_182 1 236 (dk_at dksJ0_charAt_0 1 rfl rfl)
theorem dJ0_charAt_4 : decode cJ0_charAt 4 = .ok (.ifCond .eq 12, 3) := dk_153 0 12 (dk_at dksJ0_charAt_0 4 rfl rfl)
theorem dJ0_charAt_7 : decode cJ0_charAt 7 = .ok (.aload_n 0, 1) := dk_42 (dk_at dksJ0_charAt_0 7 rfl rfl)
theorem dJ0_charAt_8 : decode cJ0_charAt 8 = .ok (.getfield 9, 3) := dk_180 0 9 (dk_at dksJ0_charAt_0 8 rfl rfl)
theorem dJ0_charAt_11 : decode cJ0_charAt 11 = .ok (.iload_n 1, 1) := dk_27 (dk_at dksJ0_charAt_0 11 rfl rfl)
theorem dJ0_charAt_12 : decode cJ0_charAt 12 = .ok (.invokestatic 495, 3) := dk_184 1 239 (dk_at dksJ0_charAt_0 12 rfl rfl)
theorem dJ0_charAt_15 : decode cJ0_charAt 15 = .ok (.ireturn, 1) := dk_172 (dk_at dksJ0_charAt_0 15 rfl rfl)
theorem dJ0_charAt_16 : decode cJ0_charAt 16 = .ok (.aload_n 0, 1) := dk_42 (dk_at dksJ0_charAt_0 16 rfl rfl)
theorem dJ0_charAt_17 : decode cJ0_charAt 17 = .ok (.getfield 9, 3) := dk_180 0 9 (dk_at dksJ0_charAt_0 17 rfl rfl)
theorem dJ0_charAt_20 : decode cJ0_charAt 20 = .ok (.iload_n 1, 1) := dk_27 (dk_at dksJ0_charAt_0 20 rfl rfl)
theorem dJ0_charAt_21 : decode cJ0_charAt 21 = .ok (.invokestatic 498, 3) := dk_184 1 242 (dk_at dksJ0_charAt_0 21 rfl rfl)
theorem dJ0_charAt_24 : decode cJ0_charAt 24 = .ok (.ireturn, 1) := dk_172 (dk_at dksJ0_charAt_1 0 rfl rfl)
abbrev cJ0_isLatin1 : ByteArray := prog_11_method_154_code
def yJ0_isLatin1 : MethodName := ⟨RJ0, "isLatin1", "()Z"⟩
def dkwJ0_isLatin1_0 : List UInt8 := [178, 0, 38, 153, 0, 14, 42, 180, 0, 15, 154, 0, 7, 4, 167, 0, 4, 3, 172]
abbrev dktJ0_isLatin1_0 : List UInt8 := dkwJ0_isLatin1_0 ++ []
theorem dksJ0_isLatin1_0 : cJ0_isLatin1.data.toList.drop 0 = dktJ0_isLatin1_0 := by decide +kernel
theorem dJ0_isLatin1_0 : decode cJ0_isLatin1 0 = .ok (.getstatic 38, 3) := dk_178 0 38 (dk_at dksJ0_isLatin1_0 0 rfl rfl)
theorem dJ0_isLatin1_3 : decode cJ0_isLatin1 3 = .ok (.ifCond .eq 14, 3) := dk_153 0 14 (dk_at dksJ0_isLatin1_0 3 rfl rfl)
theorem dJ0_isLatin1_6 : decode cJ0_isLatin1 6 = .ok (.aload_n 0, 1) := dk_42 (dk_at dksJ0_isLatin1_0 6 rfl rfl)
theorem dJ0_isLatin1_7 : decode cJ0_isLatin1 7 = .ok (.getfield 15, 3) := dk_180 0 15 (dk_at dksJ0_isLatin1_0 7 rfl rfl)
theorem dJ0_isLatin1_10 : decode cJ0_isLatin1 10 = .ok (.ifCond .ne 7, 3) := dk_154 0 7 (dk_at dksJ0_isLatin1_0 10 rfl rfl)
theorem dJ0_isLatin1_13 : decode cJ0_isLatin1 13 = .ok (.iconst 1, 1) := dk_4 (dk_at dksJ0_isLatin1_0 13 rfl rfl)
theorem dJ0_isLatin1_14 : decode cJ0_isLatin1 14 = .ok (.goto 4, 3) := dk_167 0 4 (dk_at dksJ0_isLatin1_0 14 rfl rfl)
theorem dJ0_isLatin1_17 : decode cJ0_isLatin1 17 = .ok (.iconst 0, 1) := dk_3 (dk_at dksJ0_isLatin1_0 17 rfl rfl)
theorem dJ0_isLatin1_18 : decode cJ0_isLatin1 18 = .ok (.ireturn, 1) := dk_172 (dk_at dksJ0_isLatin1_0 18 rfl rfl)
abbrev cJ0_toCharArray : ByteArray := prog_11_method_129_code
def yJ0_toCharArray : MethodName := ⟨RJ0, "toCharArray", "()[C"⟩
def dkwJ0_toCharArray_1 : List UInt8 := [176]
abbrev dktJ0_toCharArray_1 : List UInt8 := dkwJ0_toCharArray_1 ++ []
def dkwJ0_toCharArray_0 : List UInt8 := [42, 182, 1, 236, 153, 0, 13, 42, 180, 0, 9, 184, 1, 43, 167, 0, 10, 42, 180, 0, 9, 184, 1, 47]
abbrev dktJ0_toCharArray_0 : List UInt8 := dkwJ0_toCharArray_0 ++ dktJ0_toCharArray_1
theorem dksJ0_toCharArray_0 : cJ0_toCharArray.data.toList.drop 0 = dktJ0_toCharArray_0 := by decide +kernel
theorem dksJ0_toCharArray_1 : cJ0_toCharArray.data.toList.drop 24 = dktJ0_toCharArray_1 := dk_seg dksJ0_toCharArray_0 24 rfl rfl
theorem dJ0_toCharArray_0 : decode cJ0_toCharArray 0 = .ok (.aload_n 0, 1) := dk_42 (dk_at dksJ0_toCharArray_0 0 rfl rfl)
theorem dJ0_toCharArray_1 : decode cJ0_toCharArray 1 = .ok (.invokevirtual 492, 3) := dk_182 1 236 (dk_at dksJ0_toCharArray_0 1 rfl rfl)
theorem dJ0_toCharArray_4 : decode cJ0_toCharArray 4 = .ok (.ifCond .eq 13, 3) := dk_153 0 13 (dk_at dksJ0_toCharArray_0 4 rfl rfl)
theorem dJ0_toCharArray_7 : decode cJ0_toCharArray 7 = .ok (.aload_n 0, 1) := dk_42 (dk_at dksJ0_toCharArray_0 7 rfl rfl)
theorem dJ0_toCharArray_8 : decode cJ0_toCharArray 8 = .ok (.getfield 9, 3) := dk_180 0 9 (dk_at dksJ0_toCharArray_0 8 rfl rfl)
theorem dJ0_toCharArray_11 : decode cJ0_toCharArray 11 = .ok (.invokestatic 299, 3) := dk_184 1 43 (dk_at dksJ0_toCharArray_0 11 rfl rfl)
theorem dJ0_toCharArray_14 : decode cJ0_toCharArray 14 = .ok (.goto 10, 3) := dk_167 0 10 (dk_at dksJ0_toCharArray_0 14 rfl rfl)
theorem dJ0_toCharArray_17 : decode cJ0_toCharArray 17 = .ok (.aload_n 0, 1) := dk_42 (dk_at dksJ0_toCharArray_0 17 rfl rfl)
theorem dJ0_toCharArray_18 : decode cJ0_toCharArray 18 = .ok (.getfield 9, 3) := dk_180 0 9 (dk_at dksJ0_toCharArray_0 18 rfl rfl)
theorem dJ0_toCharArray_21 : decode cJ0_toCharArray 21 = .ok (.invokestatic 303, 3) := dk_184 1 47 (dk_at dksJ0_toCharArray_0 21 rfl rfl)
theorem dJ0_toCharArray_24 : decode cJ0_toCharArray 24 = .ok (.areturn, 1) := dk_176 (dk_at dksJ0_toCharArray_1 0 rfl rfl)
abbrev cJ0_valueOf : ByteArray := prog_11_method_134_code
def yJ0_valueOf : MethodName := ⟨RJ0, "valueOf", "([C)Ljava/lang/String;"⟩
def dkwJ0_valueOf_0 : List UInt8 := [187, 0, 10, 89, 42, 183, 3, 240, 176]
abbrev dktJ0_valueOf_0 : List UInt8 := dkwJ0_valueOf_0 ++ []
theorem dksJ0_valueOf_0 : cJ0_valueOf.data.toList.drop 0 = dktJ0_valueOf_0 := by decide +kernel
theorem dJ0_valueOf_0 : decode cJ0_valueOf 0 = .ok (.new 10, 3) := dk_187 0 10 (dk_at dksJ0_valueOf_0 0 rfl rfl)
theorem dJ0_valueOf_3 : decode cJ0_valueOf 3 = .ok (.dup, 1) := dk_89 (dk_at dksJ0_valueOf_0 3 rfl rfl)
theorem dJ0_valueOf_4 : decode cJ0_valueOf 4 = .ok (.aload_n 0, 1) := dk_42 (dk_at dksJ0_valueOf_0 4 rfl rfl)
theorem dJ0_valueOf_5 : decode cJ0_valueOf 5 = .ok (.invokespecial 1008, 3) := dk_183 3 240 (dk_at dksJ0_valueOf_0 5 rfl rfl)
theorem dJ0_valueOf_8 : decode cJ0_valueOf 8 = .ok (.areturn, 1) := dk_176 (dk_at dksJ0_valueOf_0 8 rfl rfl)
abbrev cJ0_init_3 : ByteArray := prog_11_method_3_code
def yJ0_init_3 : MethodName := ⟨RJ0, "<init>", "([C)V"⟩
def dkwJ0_init_3_0 : List UInt8 := [42, 43, 3, 43, 190, 1, 183, 0, 27, 177]
abbrev dktJ0_init_3_0 : List UInt8 := dkwJ0_init_3_0 ++ []
theorem dksJ0_init_3_0 : cJ0_init_3.data.toList.drop 0 = dktJ0_init_3_0 := by decide +kernel
theorem dJ0_init_3_0 : decode cJ0_init_3 0 = .ok (.aload_n 0, 1) := dk_42 (dk_at dksJ0_init_3_0 0 rfl rfl)
theorem dJ0_init_3_1 : decode cJ0_init_3 1 = .ok (.aload_n 1, 1) := dk_43 (dk_at dksJ0_init_3_0 1 rfl rfl)
theorem dJ0_init_3_2 : decode cJ0_init_3 2 = .ok (.iconst 0, 1) := dk_3 (dk_at dksJ0_init_3_0 2 rfl rfl)
theorem dJ0_init_3_3 : decode cJ0_init_3 3 = .ok (.aload_n 1, 1) := dk_43 (dk_at dksJ0_init_3_0 3 rfl rfl)
theorem dJ0_init_3_4 : decode cJ0_init_3 4 = .ok (.arraylength, 1) := dk_190 (dk_at dksJ0_init_3_0 4 rfl rfl)
theorem dJ0_init_3_5 : decode cJ0_init_3 5 = .ok (.aconst_null, 1) := dk_1 (dk_at dksJ0_init_3_0 5 rfl rfl)
theorem dJ0_init_3_6 : decode cJ0_init_3 6 = .ok (.invokespecial 27, 3) := dk_183 0 27 (dk_at dksJ0_init_3_0 6 rfl rfl)
theorem dJ0_init_3_9 : decode cJ0_init_3 9 = .ok (.return_, 1) := dk_177 (dk_at dksJ0_init_3_0 9 rfl rfl)
abbrev cJ0_init_4 : ByteArray := prog_11_method_149_code
def yJ0_init_4 : MethodName := ⟨RJ0, "<init>", "([CIILjava/lang/Void;)V"⟩
def dkwJ0_init_4_3 : List UInt8 := [184, 0, 180, 181, 0, 9, 177]
abbrev dktJ0_init_4_3 : List UInt8 := dkwJ0_init_4_3 ++ []
def dkwJ0_init_4_2 : List UInt8 := [184, 0, 47, 181, 0, 15, 42, 25, 5, 181, 0, 9, 177, 42, 4, 181, 0, 15, 42, 43, 28, 29]
abbrev dktJ0_init_4_2 : List UInt8 := dkwJ0_init_4_2 ++ dktJ0_init_4_3
def dkwJ0_init_4_1 : List UInt8 := [181, 0, 15, 177, 178, 0, 38, 153, 0, 28, 43, 28, 29, 184, 0, 177, 58, 5, 42, 25, 5, 29]
abbrev dktJ0_init_4_1 : List UInt8 := dkwJ0_init_4_1 ++ dktJ0_init_4_2
def dkwJ0_init_4_0 : List UInt8 := [42, 183, 0, 1, 29, 154, 0, 22, 42, 18, 7, 180, 0, 9, 181, 0, 9, 42, 18, 7, 180, 0, 15]
abbrev dktJ0_init_4_0 : List UInt8 := dkwJ0_init_4_0 ++ dktJ0_init_4_1
theorem dksJ0_init_4_0 : cJ0_init_4.data.toList.drop 0 = dktJ0_init_4_0 := by decide +kernel
theorem dksJ0_init_4_1 : cJ0_init_4.data.toList.drop 23 = dktJ0_init_4_1 := dk_seg dksJ0_init_4_0 23 rfl rfl
theorem dksJ0_init_4_2 : cJ0_init_4.data.toList.drop 45 = dktJ0_init_4_2 := dk_seg dksJ0_init_4_1 22 rfl rfl
theorem dksJ0_init_4_3 : cJ0_init_4.data.toList.drop 67 = dktJ0_init_4_3 := dk_seg dksJ0_init_4_2 22 rfl rfl
theorem dJ0_init_4_0 : decode cJ0_init_4 0 = .ok (.aload_n 0, 1) := dk_42 (dk_at dksJ0_init_4_0 0 rfl rfl)
theorem dJ0_init_4_1 : decode cJ0_init_4 1 = .ok (.invokespecial 1, 3) := dk_183 0 1 (dk_at dksJ0_init_4_0 1 rfl rfl)
theorem dJ0_init_4_4 : decode cJ0_init_4 4 = .ok (.iload_n 3, 1) := dk_29 (dk_at dksJ0_init_4_0 4 rfl rfl)
theorem dJ0_init_4_5 : decode cJ0_init_4 5 = .ok (.ifCond .ne 22, 3) := dk_154 0 22 (dk_at dksJ0_init_4_0 5 rfl rfl)
theorem dJ0_init_4_8 : decode cJ0_init_4 8 = .ok (.aload_n 0, 1) := dk_42 (dk_at dksJ0_init_4_0 8 rfl rfl)
theorem dJ0_init_4_9 : decode cJ0_init_4 9 = .ok (.ldc 7, 2) := dk_18 7 (dk_at dksJ0_init_4_0 9 rfl rfl)
theorem dJ0_init_4_11 : decode cJ0_init_4 11 = .ok (.getfield 9, 3) := dk_180 0 9 (dk_at dksJ0_init_4_0 11 rfl rfl)
theorem dJ0_init_4_14 : decode cJ0_init_4 14 = .ok (.putfield 9, 3) := dk_181 0 9 (dk_at dksJ0_init_4_0 14 rfl rfl)
theorem dJ0_init_4_17 : decode cJ0_init_4 17 = .ok (.aload_n 0, 1) := dk_42 (dk_at dksJ0_init_4_0 17 rfl rfl)
theorem dJ0_init_4_18 : decode cJ0_init_4 18 = .ok (.ldc 7, 2) := dk_18 7 (dk_at dksJ0_init_4_0 18 rfl rfl)
theorem dJ0_init_4_20 : decode cJ0_init_4 20 = .ok (.getfield 15, 3) := dk_180 0 15 (dk_at dksJ0_init_4_0 20 rfl rfl)
theorem dJ0_init_4_23 : decode cJ0_init_4 23 = .ok (.putfield 15, 3) := dk_181 0 15 (dk_at dksJ0_init_4_1 0 rfl rfl)
theorem dJ0_init_4_26 : decode cJ0_init_4 26 = .ok (.return_, 1) := dk_177 (dk_at dksJ0_init_4_1 3 rfl rfl)
theorem dJ0_init_4_27 : decode cJ0_init_4 27 = .ok (.getstatic 38, 3) := dk_178 0 38 (dk_at dksJ0_init_4_1 4 rfl rfl)
theorem dJ0_init_4_30 : decode cJ0_init_4 30 = .ok (.ifCond .eq 28, 3) := dk_153 0 28 (dk_at dksJ0_init_4_1 7 rfl rfl)
theorem dJ0_init_4_33 : decode cJ0_init_4 33 = .ok (.aload_n 1, 1) := dk_43 (dk_at dksJ0_init_4_1 10 rfl rfl)
theorem dJ0_init_4_34 : decode cJ0_init_4 34 = .ok (.iload_n 2, 1) := dk_28 (dk_at dksJ0_init_4_1 11 rfl rfl)
theorem dJ0_init_4_35 : decode cJ0_init_4 35 = .ok (.iload_n 3, 1) := dk_29 (dk_at dksJ0_init_4_1 12 rfl rfl)
theorem dJ0_init_4_36 : decode cJ0_init_4 36 = .ok (.invokestatic 177, 3) := dk_184 0 177 (dk_at dksJ0_init_4_1 13 rfl rfl)
theorem dJ0_init_4_39 : decode cJ0_init_4 39 = .ok (.astore 5, 2) := dk_58 5 (dk_at dksJ0_init_4_1 16 rfl rfl)
theorem dJ0_init_4_41 : decode cJ0_init_4 41 = .ok (.aload_n 0, 1) := dk_42 (dk_at dksJ0_init_4_1 18 rfl rfl)
theorem dJ0_init_4_42 : decode cJ0_init_4 42 = .ok (.aload 5, 2) := dk_25 5 (dk_at dksJ0_init_4_1 19 rfl rfl)
theorem dJ0_init_4_44 : decode cJ0_init_4 44 = .ok (.iload_n 3, 1) := dk_29 (dk_at dksJ0_init_4_1 21 rfl rfl)
theorem dJ0_init_4_45 : decode cJ0_init_4 45 = .ok (.invokestatic 47, 3) := dk_184 0 47 (dk_at dksJ0_init_4_2 0 rfl rfl)
theorem dJ0_init_4_48 : decode cJ0_init_4 48 = .ok (.putfield 15, 3) := dk_181 0 15 (dk_at dksJ0_init_4_2 3 rfl rfl)
theorem dJ0_init_4_51 : decode cJ0_init_4 51 = .ok (.aload_n 0, 1) := dk_42 (dk_at dksJ0_init_4_2 6 rfl rfl)
theorem dJ0_init_4_52 : decode cJ0_init_4 52 = .ok (.aload 5, 2) := dk_25 5 (dk_at dksJ0_init_4_2 7 rfl rfl)
theorem dJ0_init_4_54 : decode cJ0_init_4 54 = .ok (.putfield 9, 3) := dk_181 0 9 (dk_at dksJ0_init_4_2 9 rfl rfl)
theorem dJ0_init_4_57 : decode cJ0_init_4 57 = .ok (.return_, 1) := dk_177 (dk_at dksJ0_init_4_2 12 rfl rfl)
theorem dJ0_init_4_58 : decode cJ0_init_4 58 = .ok (.aload_n 0, 1) := dk_42 (dk_at dksJ0_init_4_2 13 rfl rfl)
theorem dJ0_init_4_59 : decode cJ0_init_4 59 = .ok (.iconst 1, 1) := dk_4 (dk_at dksJ0_init_4_2 14 rfl rfl)
theorem dJ0_init_4_60 : decode cJ0_init_4 60 = .ok (.putfield 15, 3) := dk_181 0 15 (dk_at dksJ0_init_4_2 15 rfl rfl)
theorem dJ0_init_4_63 : decode cJ0_init_4 63 = .ok (.aload_n 0, 1) := dk_42 (dk_at dksJ0_init_4_2 18 rfl rfl)
theorem dJ0_init_4_64 : decode cJ0_init_4 64 = .ok (.aload_n 1, 1) := dk_43 (dk_at dksJ0_init_4_2 19 rfl rfl)
theorem dJ0_init_4_65 : decode cJ0_init_4 65 = .ok (.iload_n 2, 1) := dk_28 (dk_at dksJ0_init_4_2 20 rfl rfl)
theorem dJ0_init_4_66 : decode cJ0_init_4 66 = .ok (.iload_n 3, 1) := dk_29 (dk_at dksJ0_init_4_2 21 rfl rfl)
theorem dJ0_init_4_67 : decode cJ0_init_4 67 = .ok (.invokestatic 180, 3) := dk_184 0 180 (dk_at dksJ0_init_4_3 0 rfl rfl)
theorem dJ0_init_4_70 : decode cJ0_init_4 70 = .ok (.putfield 9, 3) := dk_181 0 9 (dk_at dksJ0_init_4_3 3 rfl rfl)
theorem dJ0_init_4_73 : decode cJ0_init_4 73 = .ok (.return_, 1) := dk_177 (dk_at dksJ0_init_4_3 6 rfl rfl)
abbrev cJ0_subSequence : ByteArray := prog_11_method_93_code
def yJ0_subSequence : MethodName := ⟨RJ0, "subSequence", "(II)Ljava/lang/CharSequence;"⟩
def dkwJ0_subSequence_0 : List UInt8 := [42, 27, 28, 182, 2, 169, 176]
abbrev dktJ0_subSequence_0 : List UInt8 := dkwJ0_subSequence_0 ++ []
theorem dksJ0_subSequence_0 : cJ0_subSequence.data.toList.drop 0 = dktJ0_subSequence_0 := by decide +kernel
theorem dJ0_subSequence_0 : decode cJ0_subSequence 0 = .ok (.aload_n 0, 1) := dk_42 (dk_at dksJ0_subSequence_0 0 rfl rfl)
theorem dJ0_subSequence_1 : decode cJ0_subSequence 1 = .ok (.iload_n 1, 1) := dk_27 (dk_at dksJ0_subSequence_0 1 rfl rfl)
theorem dJ0_subSequence_2 : decode cJ0_subSequence 2 = .ok (.iload_n 2, 1) := dk_28 (dk_at dksJ0_subSequence_0 2 rfl rfl)
theorem dJ0_subSequence_3 : decode cJ0_subSequence 3 = .ok (.invokevirtual 681, 3) := dk_182 2 169 (dk_at dksJ0_subSequence_0 3 rfl rfl)
theorem dJ0_subSequence_6 : decode cJ0_subSequence 6 = .ok (.areturn, 1) := dk_176 (dk_at dksJ0_subSequence_0 6 rfl rfl)
abbrev cJ0_substring : ByteArray := prog_11_method_92_code
def yJ0_substring : MethodName := ⟨RJ0, "substring", "(II)Ljava/lang/String;"⟩
def dkwJ0_substring_2 : List UInt8 := [180, 0, 9, 27, 21, 4, 184, 2, 177, 176]
abbrev dktJ0_substring_2 : List UInt8 := dkwJ0_substring_2 ++ []
def dkwJ0_substring_1 : List UInt8 := [100, 54, 4, 42, 182, 1, 236, 153, 0, 16, 42, 180, 0, 9, 27, 21, 4, 184, 2, 173, 167, 0, 13, 42]
abbrev dktJ0_substring_1 : List UInt8 := dkwJ0_substring_1 ++ dktJ0_substring_2
def dkwJ0_substring_0 : List UInt8 := [42, 182, 1, 249, 62, 27, 28, 29, 184, 2, 9, 27, 154, 0, 10, 28, 29, 160, 0, 5, 42, 176, 28, 27]
abbrev dktJ0_substring_0 : List UInt8 := dkwJ0_substring_0 ++ dktJ0_substring_1
theorem dksJ0_substring_0 : cJ0_substring.data.toList.drop 0 = dktJ0_substring_0 := by decide +kernel
theorem dksJ0_substring_1 : cJ0_substring.data.toList.drop 24 = dktJ0_substring_1 := dk_seg dksJ0_substring_0 24 rfl rfl
theorem dksJ0_substring_2 : cJ0_substring.data.toList.drop 48 = dktJ0_substring_2 := dk_seg dksJ0_substring_1 24 rfl rfl
theorem dJ0_substring_0 : decode cJ0_substring 0 = .ok (.aload_n 0, 1) := dk_42 (dk_at dksJ0_substring_0 0 rfl rfl)
theorem dJ0_substring_1 : decode cJ0_substring 1 = .ok (.invokevirtual 505, 3) := dk_182 1 249 (dk_at dksJ0_substring_0 1 rfl rfl)
theorem dJ0_substring_4 : decode cJ0_substring 4 = .ok (.istore_n 3, 1) := dk_62 (dk_at dksJ0_substring_0 4 rfl rfl)
theorem dJ0_substring_5 : decode cJ0_substring 5 = .ok (.iload_n 1, 1) := dk_27 (dk_at dksJ0_substring_0 5 rfl rfl)
theorem dJ0_substring_6 : decode cJ0_substring 6 = .ok (.iload_n 2, 1) := dk_28 (dk_at dksJ0_substring_0 6 rfl rfl)
theorem dJ0_substring_7 : decode cJ0_substring 7 = .ok (.iload_n 3, 1) := dk_29 (dk_at dksJ0_substring_0 7 rfl rfl)
theorem dJ0_substring_8 : decode cJ0_substring 8 = .ok (.invokestatic 521, 3) := dk_184 2 9 (dk_at dksJ0_substring_0 8 rfl rfl)
theorem dJ0_substring_11 : decode cJ0_substring 11 = .ok (.iload_n 1, 1) := dk_27 (dk_at dksJ0_substring_0 11 rfl rfl)
theorem dJ0_substring_12 : decode cJ0_substring 12 = .ok (.ifCond .ne 10, 3) := dk_154 0 10 (dk_at dksJ0_substring_0 12 rfl rfl)
theorem dJ0_substring_15 : decode cJ0_substring 15 = .ok (.iload_n 2, 1) := dk_28 (dk_at dksJ0_substring_0 15 rfl rfl)
theorem dJ0_substring_16 : decode cJ0_substring 16 = .ok (.iload_n 3, 1) := dk_29 (dk_at dksJ0_substring_0 16 rfl rfl)
theorem dJ0_substring_17 : decode cJ0_substring 17 = .ok (.if_icmp .ne 5, 3) := dk_160 0 5 (dk_at dksJ0_substring_0 17 rfl rfl)
theorem dJ0_substring_20 : decode cJ0_substring 20 = .ok (.aload_n 0, 1) := dk_42 (dk_at dksJ0_substring_0 20 rfl rfl)
theorem dJ0_substring_21 : decode cJ0_substring 21 = .ok (.areturn, 1) := dk_176 (dk_at dksJ0_substring_0 21 rfl rfl)
theorem dJ0_substring_22 : decode cJ0_substring 22 = .ok (.iload_n 2, 1) := dk_28 (dk_at dksJ0_substring_0 22 rfl rfl)
theorem dJ0_substring_23 : decode cJ0_substring 23 = .ok (.iload_n 1, 1) := dk_27 (dk_at dksJ0_substring_0 23 rfl rfl)
theorem dJ0_substring_24 : decode cJ0_substring 24 = .ok (.isub, 1) := dk_100 (dk_at dksJ0_substring_1 0 rfl rfl)
theorem dJ0_substring_25 : decode cJ0_substring 25 = .ok (.istore 4, 2) := dk_54 4 (dk_at dksJ0_substring_1 1 rfl rfl)
theorem dJ0_substring_27 : decode cJ0_substring 27 = .ok (.aload_n 0, 1) := dk_42 (dk_at dksJ0_substring_1 3 rfl rfl)
theorem dJ0_substring_28 : decode cJ0_substring 28 = .ok (.invokevirtual 492, 3) := dk_182 1 236 (dk_at dksJ0_substring_1 4 rfl rfl)
theorem dJ0_substring_31 : decode cJ0_substring 31 = .ok (.ifCond .eq 16, 3) := dk_153 0 16 (dk_at dksJ0_substring_1 7 rfl rfl)
theorem dJ0_substring_34 : decode cJ0_substring 34 = .ok (.aload_n 0, 1) := dk_42 (dk_at dksJ0_substring_1 10 rfl rfl)
theorem dJ0_substring_35 : decode cJ0_substring 35 = .ok (.getfield 9, 3) := dk_180 0 9 (dk_at dksJ0_substring_1 11 rfl rfl)
theorem dJ0_substring_38 : decode cJ0_substring 38 = .ok (.iload_n 1, 1) := dk_27 (dk_at dksJ0_substring_1 14 rfl rfl)
theorem dJ0_substring_39 : decode cJ0_substring 39 = .ok (.iload 4, 2) := dk_21 4 (dk_at dksJ0_substring_1 15 rfl rfl)
theorem dJ0_substring_41 : decode cJ0_substring 41 = .ok (.invokestatic 685, 3) := dk_184 2 173 (dk_at dksJ0_substring_1 17 rfl rfl)
theorem dJ0_substring_44 : decode cJ0_substring 44 = .ok (.goto 13, 3) := dk_167 0 13 (dk_at dksJ0_substring_1 20 rfl rfl)
theorem dJ0_substring_47 : decode cJ0_substring 47 = .ok (.aload_n 0, 1) := dk_42 (dk_at dksJ0_substring_1 23 rfl rfl)
theorem dJ0_substring_48 : decode cJ0_substring 48 = .ok (.getfield 9, 3) := dk_180 0 9 (dk_at dksJ0_substring_2 0 rfl rfl)
theorem dJ0_substring_51 : decode cJ0_substring 51 = .ok (.iload_n 1, 1) := dk_27 (dk_at dksJ0_substring_2 3 rfl rfl)
theorem dJ0_substring_52 : decode cJ0_substring 52 = .ok (.iload 4, 2) := dk_21 4 (dk_at dksJ0_substring_2 4 rfl rfl)
theorem dJ0_substring_54 : decode cJ0_substring 54 = .ok (.invokestatic 689, 3) := dk_184 2 177 (dk_at dksJ0_substring_2 6 rfl rfl)
theorem dJ0_substring_57 : decode cJ0_substring 57 = .ok (.areturn, 1) := dk_176 (dk_at dksJ0_substring_2 9 rfl rfl)
abbrev cJ0_init_5 : ByteArray := prog_11_method_151_code
def yJ0_init_5 : MethodName := ⟨RJ0, "<init>", "([BB)V"⟩
def dkwJ0_init_5_0 : List UInt8 := [42, 183, 0, 1, 42, 43, 181, 0, 9, 42, 28, 181, 0, 15, 177]
abbrev dktJ0_init_5_0 : List UInt8 := dkwJ0_init_5_0 ++ []
theorem dksJ0_init_5_0 : cJ0_init_5.data.toList.drop 0 = dktJ0_init_5_0 := by decide +kernel
theorem dJ0_init_5_0 : decode cJ0_init_5 0 = .ok (.aload_n 0, 1) := dk_42 (dk_at dksJ0_init_5_0 0 rfl rfl)
theorem dJ0_init_5_1 : decode cJ0_init_5 1 = .ok (.invokespecial 1, 3) := dk_183 0 1 (dk_at dksJ0_init_5_0 1 rfl rfl)
theorem dJ0_init_5_4 : decode cJ0_init_5 4 = .ok (.aload_n 0, 1) := dk_42 (dk_at dksJ0_init_5_0 4 rfl rfl)
theorem dJ0_init_5_5 : decode cJ0_init_5 5 = .ok (.aload_n 1, 1) := dk_43 (dk_at dksJ0_init_5_0 5 rfl rfl)
theorem dJ0_init_5_6 : decode cJ0_init_5 6 = .ok (.putfield 9, 3) := dk_181 0 9 (dk_at dksJ0_init_5_0 6 rfl rfl)
theorem dJ0_init_5_9 : decode cJ0_init_5 9 = .ok (.aload_n 0, 1) := dk_42 (dk_at dksJ0_init_5_0 9 rfl rfl)
theorem dJ0_init_5_10 : decode cJ0_init_5 10 = .ok (.iload_n 2, 1) := dk_28 (dk_at dksJ0_init_5_0 10 rfl rfl)
theorem dJ0_init_5_11 : decode cJ0_init_5 11 = .ok (.putfield 15, 3) := dk_181 0 15 (dk_at dksJ0_init_5_0 11 rfl rfl)
theorem dJ0_init_5_14 : decode cJ0_init_5 14 = .ok (.return_, 1) := dk_177 (dk_at dksJ0_init_5_0 14 rfl rfl)
abbrev cJ0_toString : ByteArray := prog_11_method_126_code
def yJ0_toString : MethodName := ⟨RJ0, "toString", "()Ljava/lang/String;"⟩
theorem dJ0_toString_0 : decode cJ0_toString 0 = .ok (.aload_n 0, 1) := by decide +kernel
theorem dJ0_toString_1 : decode cJ0_toString 1 = .ok (.areturn, 1) := by decide +kernel
/-! java/lang/Math -/
set_option maxRecDepth 100000
def RJ1 : String := "java/lang/Math"
abbrev cJ1_min : ByteArray := prog_10_method_69_code
def yJ1_min : MethodName := ⟨RJ1, "min", "(II)I"⟩
def dkwJ1_min_0 : List UInt8 := [26, 27, 163, 0, 7, 26, 167, 0, 4, 27, 172]
abbrev dktJ1_min_0 : List UInt8 := dkwJ1_min_0 ++ []
theorem dksJ1_min_0 : cJ1_min.data.toList.drop 0 = dktJ1_min_0 := by decide +kernel
theorem dJ1_min_0 : decode cJ1_min 0 = .ok (.iload_n 0, 1) := dk_26 (dk_at dksJ1_min_0 0 rfl rfl)
theorem dJ1_min_1 : decode cJ1_min 1 = .ok (.iload_n 1, 1) := dk_27 (dk_at dksJ1_min_0 1 rfl rfl)
theorem dJ1_min_2 : decode cJ1_min 2 = .ok (.if_icmp .gt 7, 3) := dk_163 0 7 (dk_at dksJ1_min_0 2 rfl rfl)
theorem dJ1_min_5 : decode cJ1_min 5 = .ok (.iload_n 0, 1) := dk_26 (dk_at dksJ1_min_0 5 rfl rfl)
theorem dJ1_min_6 : decode cJ1_min 6 = .ok (.goto 4, 3) := dk_167 0 4 (dk_at dksJ1_min_0 6 rfl rfl)
theorem dJ1_min_9 : decode cJ1_min 9 = .ok (.iload_n 1, 1) := dk_27 (dk_at dksJ1_min_0 9 rfl rfl)
theorem dJ1_min_10 : decode cJ1_min 10 = .ok (.ireturn, 1) := dk_172 (dk_at dksJ1_min_0 10 rfl rfl)
/-! java/lang/Object -/
set_option maxRecDepth 100000
def RJ10 : String := "java/lang/Object"
abbrev cJ10_init : ByteArray := object_method_1_code
def yJ10_init : MethodName := ⟨RJ10, "<init>", "()V"⟩
theorem dJ10_init_0 : decode cJ10_init 0 = .ok (.return_, 1) := by decide +kernel
/-! java/lang/StringLatin1 -/
set_option maxRecDepth 100000
def RJ2 : String := "java/lang/StringLatin1"
abbrev cJ2_canEncode : ByteArray := prog_13_method_3_code
def yJ2_canEncode : MethodName := ⟨RJ2, "canEncode", "(C)Z"⟩
def dkwJ2_canEncode_0 : List UInt8 := [26, 17, 0, 255, 163, 0, 7, 4, 167, 0, 4, 3, 172]
abbrev dktJ2_canEncode_0 : List UInt8 := dkwJ2_canEncode_0 ++ []
theorem dksJ2_canEncode_0 : cJ2_canEncode.data.toList.drop 0 = dktJ2_canEncode_0 := by decide +kernel
theorem dJ2_canEncode_0 : decode cJ2_canEncode 0 = .ok (.iload_n 0, 1) := dk_26 (dk_at dksJ2_canEncode_0 0 rfl rfl)
theorem dJ2_canEncode_1 : decode cJ2_canEncode 1 = .ok (.sipush 255, 3) := dk_17 0 255 (dk_at dksJ2_canEncode_0 1 rfl rfl)
theorem dJ2_canEncode_4 : decode cJ2_canEncode 4 = .ok (.if_icmp .gt 7, 3) := dk_163 0 7 (dk_at dksJ2_canEncode_0 4 rfl rfl)
theorem dJ2_canEncode_7 : decode cJ2_canEncode 7 = .ok (.iconst 1, 1) := dk_4 (dk_at dksJ2_canEncode_0 7 rfl rfl)
theorem dJ2_canEncode_8 : decode cJ2_canEncode 8 = .ok (.goto 4, 3) := dk_167 0 4 (dk_at dksJ2_canEncode_0 8 rfl rfl)
theorem dJ2_canEncode_11 : decode cJ2_canEncode 11 = .ok (.iconst 0, 1) := dk_3 (dk_at dksJ2_canEncode_0 11 rfl rfl)
theorem dJ2_canEncode_12 : decode cJ2_canEncode 12 = .ok (.ireturn, 1) := dk_172 (dk_at dksJ2_canEncode_0 12 rfl rfl)
abbrev cJ2_charAt : ByteArray := prog_13_method_2_code
def yJ2_charAt : MethodName := ⟨RJ2, "charAt", "([BI)C"⟩
def dkwJ2_charAt_0 : List UInt8 := [27, 42, 190, 184, 0, 9, 42, 27, 51, 17, 0, 255, 126, 146, 172]
abbrev dktJ2_charAt_0 : List UInt8 := dkwJ2_charAt_0 ++ []
theorem dksJ2_charAt_0 : cJ2_charAt.data.toList.drop 0 = dktJ2_charAt_0 := by decide +kernel
theorem dJ2_charAt_0 : decode cJ2_charAt 0 = .ok (.iload_n 1, 1) := dk_27 (dk_at dksJ2_charAt_0 0 rfl rfl)
theorem dJ2_charAt_1 : decode cJ2_charAt 1 = .ok (.aload_n 0, 1) := dk_42 (dk_at dksJ2_charAt_0 1 rfl rfl)
theorem dJ2_charAt_2 : decode cJ2_charAt 2 = .ok (.arraylength, 1) := dk_190 (dk_at dksJ2_charAt_0 2 rfl rfl)
theorem dJ2_charAt_3 : decode cJ2_charAt 3 = .ok (.invokestatic 9, 3) := dk_184 0 9 (dk_at dksJ2_charAt_0 3 rfl rfl)
theorem dJ2_charAt_6 : decode cJ2_charAt 6 = .ok (.aload_n 0, 1) := dk_42 (dk_at dksJ2_charAt_0 6 rfl rfl)
theorem dJ2_charAt_7 : decode cJ2_charAt 7 = .ok (.iload_n 1, 1) := dk_27 (dk_at dksJ2_charAt_0 7 rfl rfl)
theorem dJ2_charAt_8 : decode cJ2_charAt 8 = .ok (.baload, 1) := dk_51 (dk_at dksJ2_charAt_0 8 rfl rfl)
theorem dJ2_charAt_9 : decode cJ2_charAt 9 = .ok (.sipush 255, 3) := dk_17 0 255 (dk_at dksJ2_charAt_0 9 rfl rfl)
theorem dJ2_charAt_12 : decode cJ2_charAt 12 = .ok (.iand, 1) := dk_126 (dk_at dksJ2_charAt_0 12 rfl rfl)
theorem dJ2_charAt_13 : decode cJ2_charAt 13 = .ok (.i2c, 1) := dk_146 (dk_at dksJ2_charAt_0 13 rfl rfl)
theorem dJ2_charAt_14 : decode cJ2_charAt 14 = .ok (.ireturn, 1) := dk_172 (dk_at dksJ2_charAt_0 14 rfl rfl)
abbrev cJ2_toChars : ByteArray := prog_13_method_9_code
def yJ2_toChars : MethodName := ⟨RJ2, "toChars", "([B)[C"⟩
def dkwJ2_toChars_0 : List UInt8 := [42, 190, 188, 5, 76, 42, 3, 43, 3, 42, 190, 184, 0, 13, 43, 176]
abbrev dktJ2_toChars_0 : List UInt8 := dkwJ2_toChars_0 ++ []
theorem dksJ2_toChars_0 : cJ2_toChars.data.toList.drop 0 = dktJ2_toChars_0 := by decide +kernel
theorem dJ2_toChars_0 : decode cJ2_toChars 0 = .ok (.aload_n 0, 1) := dk_42 (dk_at dksJ2_toChars_0 0 rfl rfl)
theorem dJ2_toChars_1 : decode cJ2_toChars 1 = .ok (.arraylength, 1) := dk_190 (dk_at dksJ2_toChars_0 1 rfl rfl)
theorem dJ2_toChars_2 : decode cJ2_toChars 2 = .ok (.newarray .char, 2) := dk_188_5 (dk_at dksJ2_toChars_0 2 rfl rfl)
theorem dJ2_toChars_4 : decode cJ2_toChars 4 = .ok (.astore_n 1, 1) := dk_76 (dk_at dksJ2_toChars_0 4 rfl rfl)
theorem dJ2_toChars_5 : decode cJ2_toChars 5 = .ok (.aload_n 0, 1) := dk_42 (dk_at dksJ2_toChars_0 5 rfl rfl)
theorem dJ2_toChars_6 : decode cJ2_toChars 6 = .ok (.iconst 0, 1) := dk_3 (dk_at dksJ2_toChars_0 6 rfl rfl)
theorem dJ2_toChars_7 : decode cJ2_toChars 7 = .ok (.aload_n 1, 1) := dk_43 (dk_at dksJ2_toChars_0 7 rfl rfl)
theorem dJ2_toChars_8 : decode cJ2_toChars 8 = .ok (.iconst 0, 1) := dk_3 (dk_at dksJ2_toChars_0 8 rfl rfl)
theorem dJ2_toChars_9 : decode cJ2_toChars 9 = .ok (.aload_n 0, 1) := dk_42 (dk_at dksJ2_toChars_0 9 rfl rfl)
theorem dJ2_toChars_10 : decode cJ2_toChars 10 = .ok (.arraylength, 1) := dk_190 (dk_at dksJ2_toChars_0 10 rfl rfl)
theorem dJ2_toChars_11 : decode cJ2_toChars 11 = .ok (.invokestatic 13, 3) := dk_184 0 13 (dk_at dksJ2_toChars_0 11 rfl rfl)
theorem dJ2_toChars_14 : decode cJ2_toChars 14 = .ok (.aload_n 1, 1) := dk_43 (dk_at dksJ2_toChars_0 14 rfl rfl)
theorem dJ2_toChars_15 : decode cJ2_toChars 15 = .ok (.areturn, 1) := dk_176 (dk_at dksJ2_toChars_0 15 rfl rfl)
abbrev cJ2_inflate_2 : ByteArray := prog_13_method_49_code
def yJ2_inflate_2 : MethodName := ⟨RJ2, "inflate", "([BI[CII)V"⟩
def dkwJ2_inflate_2_1 : List UInt8 := [126, 146, 85, 132, 5, 1, 167, 255, 229, 177]
abbrev dktJ2_inflate_2_1 : List UInt8 := dkwJ2_inflate_2_1 ++ []
def dkwJ2_inflate_2_0 : List UInt8 := [3, 54, 5, 21, 5, 21, 4, 162, 0, 26, 44, 29, 132, 3, 1, 42, 27, 132, 1, 1, 51, 17, 0, 255]
abbrev dktJ2_inflate_2_0 : List UInt8 := dkwJ2_inflate_2_0 ++ dktJ2_inflate_2_1
theorem dksJ2_inflate_2_0 : cJ2_inflate_2.data.toList.drop 0 = dktJ2_inflate_2_0 := by decide +kernel
theorem dksJ2_inflate_2_1 : cJ2_inflate_2.data.toList.drop 24 = dktJ2_inflate_2_1 := dk_seg dksJ2_inflate_2_0 24 rfl rfl
theorem dJ2_inflate_2_0 : decode cJ2_inflate_2 0 = .ok (.iconst 0, 1) := dk_3 (dk_at dksJ2_inflate_2_0 0 rfl rfl)
theorem dJ2_inflate_2_1 : decode cJ2_inflate_2 1 = .ok (.istore 5, 2) := dk_54 5 (dk_at dksJ2_inflate_2_0 1 rfl rfl)
theorem dJ2_inflate_2_3 : decode cJ2_inflate_2 3 = .ok (.iload 5, 2) := dk_21 5 (dk_at dksJ2_inflate_2_0 3 rfl rfl)
theorem dJ2_inflate_2_5 : decode cJ2_inflate_2 5 = .ok (.iload 4, 2) := dk_21 4 (dk_at dksJ2_inflate_2_0 5 rfl rfl)
theorem dJ2_inflate_2_7 : decode cJ2_inflate_2 7 = .ok (.if_icmp .ge 26, 3) := dk_162 0 26 (dk_at dksJ2_inflate_2_0 7 rfl rfl)
theorem dJ2_inflate_2_10 : decode cJ2_inflate_2 10 = .ok (.aload_n 2, 1) := dk_44 (dk_at dksJ2_inflate_2_0 10 rfl rfl)
theorem dJ2_inflate_2_11 : decode cJ2_inflate_2 11 = .ok (.iload_n 3, 1) := dk_29 (dk_at dksJ2_inflate_2_0 11 rfl rfl)
theorem dJ2_inflate_2_12 : decode cJ2_inflate_2 12 = .ok (.iinc 3 1, 3) := dk_132 3 1 (dk_at dksJ2_inflate_2_0 12 rfl rfl)
theorem dJ2_inflate_2_15 : decode cJ2_inflate_2 15 = .ok (.aload_n 0, 1) := dk_42 (dk_at dksJ2_inflate_2_0 15 rfl rfl)
theorem dJ2_inflate_2_16 : decode cJ2_inflate_2 16 = .ok (.iload_n 1, 1) := dk_27 (dk_at dksJ2_inflate_2_0 16 rfl rfl)
theorem dJ2_inflate_2_17 : decode cJ2_inflate_2 17 = .ok (.iinc 1 1, 3) := dk_132 1 1 (dk_at dksJ2_inflate_2_0 17 rfl rfl)
theorem dJ2_inflate_2_20 : decode cJ2_inflate_2 20 = .ok (.baload, 1) := dk_51 (dk_at dksJ2_inflate_2_0 20 rfl rfl)
theorem dJ2_inflate_2_21 : decode cJ2_inflate_2 21 = .ok (.sipush 255, 3) := dk_17 0 255 (dk_at dksJ2_inflate_2_0 21 rfl rfl)
theorem dJ2_inflate_2_24 : decode cJ2_inflate_2 24 = .ok (.iand, 1) := dk_126 (dk_at dksJ2_inflate_2_1 0 rfl rfl)
theorem dJ2_inflate_2_25 : decode cJ2_inflate_2 25 = .ok (.i2c, 1) := dk_146 (dk_at dksJ2_inflate_2_1 1 rfl rfl)
theorem dJ2_inflate_2_26 : decode cJ2_inflate_2 26 = .ok (.castore, 1) := dk_85 (dk_at dksJ2_inflate_2_1 2 rfl rfl)
theorem dJ2_inflate_2_27 : decode cJ2_inflate_2 27 = .ok (.iinc 5 1, 3) := dk_132 5 1 (dk_at dksJ2_inflate_2_1 3 rfl rfl)
theorem dJ2_inflate_2_30 : decode cJ2_inflate_2 30 = .ok (.goto (-27), 3) := dk_167 255 229 (dk_at dksJ2_inflate_2_1 6 rfl rfl)
theorem dJ2_inflate_2_33 : decode cJ2_inflate_2 33 = .ok (.return_, 1) := dk_177 (dk_at dksJ2_inflate_2_1 9 rfl rfl)
abbrev cJ2_newString : ByteArray := prog_13_method_47_code
def yJ2_newString : MethodName := ⟨RJ2, "newString", "([BII)Ljava/lang/String;"⟩
def dkwJ2_newString_0 : List UInt8 := [28, 154, 0, 6, 18, 151, 176, 187, 0, 1, 89, 42, 27, 27, 28, 96, 184, 0, 232, 3, 183, 0, 112, 176]
abbrev dktJ2_newString_0 : List UInt8 := dkwJ2_newString_0 ++ []
theorem dksJ2_newString_0 : cJ2_newString.data.toList.drop 0 = dktJ2_newString_0 := by decide +kernel
theorem dJ2_newString_0 : decode cJ2_newString 0 = .ok (.iload_n 2, 1) := dk_28 (dk_at dksJ2_newString_0 0 rfl rfl)
theorem dJ2_newString_1 : decode cJ2_newString 1 = .ok (.ifCond .ne 6, 3) := dk_154 0 6 (dk_at dksJ2_newString_0 1 rfl rfl)
theorem dJ2_newString_4 : decode cJ2_newString 4 = .ok (.ldc 151, 2) := dk_18 151 (dk_at dksJ2_newString_0 4 rfl rfl)
theorem dJ2_newString_6 : decode cJ2_newString 6 = .ok (.areturn, 1) := dk_176 (dk_at dksJ2_newString_0 6 rfl rfl)
theorem dJ2_newString_7 : decode cJ2_newString 7 = .ok (.new 1, 3) := dk_187 0 1 (dk_at dksJ2_newString_0 7 rfl rfl)
theorem dJ2_newString_10 : decode cJ2_newString 10 = .ok (.dup, 1) := dk_89 (dk_at dksJ2_newString_0 10 rfl rfl)
theorem dJ2_newString_11 : decode cJ2_newString 11 = .ok (.aload_n 0, 1) := dk_42 (dk_at dksJ2_newString_0 11 rfl rfl)
theorem dJ2_newString_12 : decode cJ2_newString 12 = .ok (.iload_n 1, 1) := dk_27 (dk_at dksJ2_newString_0 12 rfl rfl)
theorem dJ2_newString_13 : decode cJ2_newString 13 = .ok (.iload_n 1, 1) := dk_27 (dk_at dksJ2_newString_0 13 rfl rfl)
theorem dJ2_newString_14 : decode cJ2_newString 14 = .ok (.iload_n 2, 1) := dk_28 (dk_at dksJ2_newString_0 14 rfl rfl)
theorem dJ2_newString_15 : decode cJ2_newString 15 = .ok (.iadd, 1) := dk_96 (dk_at dksJ2_newString_0 15 rfl rfl)
theorem dJ2_newString_16 : decode cJ2_newString 16 = .ok (.invokestatic 232, 3) := dk_184 0 232 (dk_at dksJ2_newString_0 16 rfl rfl)
theorem dJ2_newString_19 : decode cJ2_newString 19 = .ok (.iconst 0, 1) := dk_3 (dk_at dksJ2_newString_0 19 rfl rfl)
theorem dJ2_newString_20 : decode cJ2_newString 20 = .ok (.invokespecial 112, 3) := dk_183 0 112 (dk_at dksJ2_newString_0 20 rfl rfl)
theorem dJ2_newString_23 : decode cJ2_newString 23 = .ok (.areturn, 1) := dk_176 (dk_at dksJ2_newString_0 23 rfl rfl)
/-! jdk/internal/util/Preconditions -/
set_option maxRecDepth 100000
def RJ3 : String := "jdk/internal/util/Preconditions"
abbrev cJ3_checkFromToIndex : ByteArray := prog_18_method_12_code
def yJ3_checkFromToIndex : MethodName := ⟨RJ3, "checkFromToIndex", "(IIILjava/util/function/BiFunction;)I"⟩
def dkwJ3_checkFromToIndex_0 : List UInt8 := [26, 155, 0, 13, 26, 27, 163, 0, 8, 27, 28, 164, 0, 11, 45, 26, 27, 28, 184, 0, 99, 191, 26, 172]
abbrev dktJ3_checkFromToIndex_0 : List UInt8 := dkwJ3_checkFromToIndex_0 ++ []
theorem dksJ3_checkFromToIndex_0 : cJ3_checkFromToIndex.data.toList.drop 0 = dktJ3_checkFromToIndex_0 := by decide +kernel
theorem dJ3_checkFromToIndex_0 : decode cJ3_checkFromToIndex 0 = .ok (.iload_n 0, 1) := dk_26 (dk_at dksJ3_checkFromToIndex_0 0 rfl rfl)
theorem dJ3_checkFromToIndex_1 : decode cJ3_checkFromToIndex 1 = .ok (.ifCond .lt 13, 3) := dk_155 0 13 (dk_at dksJ3_checkFromToIndex_0 1 rfl rfl)
theorem dJ3_checkFromToIndex_4 : decode cJ3_checkFromToIndex 4 = .ok (.iload_n 0, 1) := dk_26 (dk_at dksJ3_checkFromToIndex_0 4 rfl rfl)
theorem dJ3_checkFromToIndex_5 : decode cJ3_checkFromToIndex 5 = .ok (.iload_n 1, 1) := dk_27 (dk_at dksJ3_checkFromToIndex_0 5 rfl rfl)
theorem dJ3_checkFromToIndex_6 : decode cJ3_checkFromToIndex 6 = .ok (.if_icmp .gt 8, 3) := dk_163 0 8 (dk_at dksJ3_checkFromToIndex_0 6 rfl rfl)
theorem dJ3_checkFromToIndex_9 : decode cJ3_checkFromToIndex 9 = .ok (.iload_n 1, 1) := dk_27 (dk_at dksJ3_checkFromToIndex_0 9 rfl rfl)
theorem dJ3_checkFromToIndex_10 : decode cJ3_checkFromToIndex 10 = .ok (.iload_n 2, 1) := dk_28 (dk_at dksJ3_checkFromToIndex_0 10 rfl rfl)
theorem dJ3_checkFromToIndex_11 : decode cJ3_checkFromToIndex 11 = .ok (.if_icmp .le 11, 3) := dk_164 0 11 (dk_at dksJ3_checkFromToIndex_0 11 rfl rfl)
theorem dJ3_checkFromToIndex_14 : decode cJ3_checkFromToIndex 14 = .ok (.aload_n 3, 1) := dk_45 (dk_at dksJ3_checkFromToIndex_0 14 rfl rfl)
theorem dJ3_checkFromToIndex_15 : decode cJ3_checkFromToIndex 15 = .ok (.iload_n 0, 1) := dk_26 (dk_at dksJ3_checkFromToIndex_0 15 rfl rfl)
theorem dJ3_checkFromToIndex_16 : decode cJ3_checkFromToIndex 16 = .ok (.iload_n 1, 1) := dk_27 (dk_at dksJ3_checkFromToIndex_0 16 rfl rfl)
theorem dJ3_checkFromToIndex_17 : decode cJ3_checkFromToIndex 17 = .ok (.iload_n 2, 1) := dk_28 (dk_at dksJ3_checkFromToIndex_0 17 rfl rfl)
theorem dJ3_checkFromToIndex_18 : decode cJ3_checkFromToIndex 18 = .ok (.invokestatic 99, 3) := dk_184 0 99 (dk_at dksJ3_checkFromToIndex_0 18 rfl rfl)
theorem dJ3_checkFromToIndex_21 : decode cJ3_checkFromToIndex 21 = .ok (.athrow, 1) := dk_191 (dk_at dksJ3_checkFromToIndex_0 21 rfl rfl)
theorem dJ3_checkFromToIndex_22 : decode cJ3_checkFromToIndex 22 = .ok (.iload_n 0, 1) := dk_26 (dk_at dksJ3_checkFromToIndex_0 22 rfl rfl)
theorem dJ3_checkFromToIndex_23 : decode cJ3_checkFromToIndex 23 = .ok (.ireturn, 1) := dk_172 (dk_at dksJ3_checkFromToIndex_0 23 rfl rfl)
abbrev cJ3_checkIndex : ByteArray := prog_18_method_11_code
def yJ3_checkIndex : MethodName := ⟨RJ3, "checkIndex", "(IILjava/util/function/BiFunction;)I"⟩
def dkwJ3_checkIndex_0 : List UInt8 := [26, 155, 0, 8, 26, 27, 161, 0, 10, 44, 26, 27, 184, 0, 95, 191, 26, 172]
abbrev dktJ3_checkIndex_0 : List UInt8 := dkwJ3_checkIndex_0 ++ []
theorem dksJ3_checkIndex_0 : cJ3_checkIndex.data.toList.drop 0 = dktJ3_checkIndex_0 := by decide +kernel
theorem dJ3_checkIndex_0 : decode cJ3_checkIndex 0 = .ok (.iload_n 0, 1) := dk_26 (dk_at dksJ3_checkIndex_0 0 rfl rfl)
theorem dJ3_checkIndex_1 : decode cJ3_checkIndex 1 = .ok (.ifCond .lt 8, 3) := dk_155 0 8 (dk_at dksJ3_checkIndex_0 1 rfl rfl)
theorem dJ3_checkIndex_4 : decode cJ3_checkIndex 4 = .ok (.iload_n 0, 1) := dk_26 (dk_at dksJ3_checkIndex_0 4 rfl rfl)
theorem dJ3_checkIndex_5 : decode cJ3_checkIndex 5 = .ok (.iload_n 1, 1) := dk_27 (dk_at dksJ3_checkIndex_0 5 rfl rfl)
theorem dJ3_checkIndex_6 : decode cJ3_checkIndex 6 = .ok (.if_icmp .lt 10, 3) := dk_161 0 10 (dk_at dksJ3_checkIndex_0 6 rfl rfl)
theorem dJ3_checkIndex_9 : decode cJ3_checkIndex 9 = .ok (.aload_n 2, 1) := dk_44 (dk_at dksJ3_checkIndex_0 9 rfl rfl)
theorem dJ3_checkIndex_10 : decode cJ3_checkIndex 10 = .ok (.iload_n 0, 1) := dk_26 (dk_at dksJ3_checkIndex_0 10 rfl rfl)
theorem dJ3_checkIndex_11 : decode cJ3_checkIndex 11 = .ok (.iload_n 1, 1) := dk_27 (dk_at dksJ3_checkIndex_0 11 rfl rfl)
theorem dJ3_checkIndex_12 : decode cJ3_checkIndex 12 = .ok (.invokestatic 95, 3) := dk_184 0 95 (dk_at dksJ3_checkIndex_0 12 rfl rfl)
theorem dJ3_checkIndex_15 : decode cJ3_checkIndex 15 = .ok (.athrow, 1) := dk_191 (dk_at dksJ3_checkIndex_0 15 rfl rfl)
theorem dJ3_checkIndex_16 : decode cJ3_checkIndex 16 = .ok (.iload_n 0, 1) := dk_26 (dk_at dksJ3_checkIndex_0 16 rfl rfl)
theorem dJ3_checkIndex_17 : decode cJ3_checkIndex 17 = .ok (.ireturn, 1) := dk_172 (dk_at dksJ3_checkIndex_0 17 rfl rfl)
/-! java/lang/StringUTF16 -/
set_option maxRecDepth 100000
def RJ4 : String := "java/lang/StringUTF16"
abbrev cJ4_coderFromArrayLen : ByteArray := prog_14_method_15_code
def yJ4_coderFromArrayLen : MethodName := ⟨RJ4, "coderFromArrayLen", "([BI)B"⟩
def dkwJ4_coderFromArrayLen_0 : List UInt8 := [27, 42, 190, 100, 16, 31, 124, 145, 172]
abbrev dktJ4_coderFromArrayLen_0 : List UInt8 := dkwJ4_coderFromArrayLen_0 ++ []
theorem dksJ4_coderFromArrayLen_0 : cJ4_coderFromArrayLen.data.toList.drop 0 = dktJ4_coderFromArrayLen_0 := by decide +kernel
theorem dJ4_coderFromArrayLen_0 : decode cJ4_coderFromArrayLen 0 = .ok (.iload_n 1, 1) := dk_27 (dk_at dksJ4_coderFromArrayLen_0 0 rfl rfl)
theorem dJ4_coderFromArrayLen_1 : decode cJ4_coderFromArrayLen 1 = .ok (.aload_n 0, 1) := dk_42 (dk_at dksJ4_coderFromArrayLen_0 1 rfl rfl)
theorem dJ4_coderFromArrayLen_2 : decode cJ4_coderFromArrayLen 2 = .ok (.arraylength, 1) := dk_190 (dk_at dksJ4_coderFromArrayLen_0 2 rfl rfl)
theorem dJ4_coderFromArrayLen_3 : decode cJ4_coderFromArrayLen 3 = .ok (.isub, 1) := dk_100 (dk_at dksJ4_coderFromArrayLen_0 3 rfl rfl)
theorem dJ4_coderFromArrayLen_4 : decode cJ4_coderFromArrayLen 4 = .ok (.bipush 31, 2) := dk_16 31 (dk_at dksJ4_coderFromArrayLen_0 4 rfl rfl)
theorem dJ4_coderFromArrayLen_6 : decode cJ4_coderFromArrayLen 6 = .ok (.iushr, 1) := dk_124 (dk_at dksJ4_coderFromArrayLen_0 6 rfl rfl)
theorem dJ4_coderFromArrayLen_7 : decode cJ4_coderFromArrayLen 7 = .ok (.i2b, 1) := dk_145 (dk_at dksJ4_coderFromArrayLen_0 7 rfl rfl)
theorem dJ4_coderFromArrayLen_8 : decode cJ4_coderFromArrayLen 8 = .ok (.ireturn, 1) := dk_172 (dk_at dksJ4_coderFromArrayLen_0 8 rfl rfl)
abbrev cJ4_compress_3 : ByteArray := prog_14_method_16_code
def yJ4_compress_3 : MethodName := ⟨RJ4, "compress", "([CII)[B"⟩
def dkwJ4_compress_3_2 : List UInt8 := [184, 0, 123, 28, 159, 0, 6, 25, 5, 176, 45, 176]
abbrev dktJ4_compress_3_2 : List UInt8 := dkwJ4_compress_3_2 ++ []
def dkwJ4_compress_3_1 : List UInt8 := [184, 0, 119, 58, 5, 25, 5, 21, 4, 184, 0, 71, 17, 0, 255, 163, 0, 16, 25, 5, 3, 45, 3, 28]
abbrev dktJ4_compress_3_1 : List UInt8 := dkwJ4_compress_3_1 ++ dktJ4_compress_3_2
def dkwJ4_compress_3_0 : List UInt8 := [28, 188, 8, 78, 42, 27, 45, 3, 28, 184, 0, 115, 54, 4, 21, 4, 28, 159, 0, 40, 42, 27, 28]
abbrev dktJ4_compress_3_0 : List UInt8 := dkwJ4_compress_3_0 ++ dktJ4_compress_3_1
theorem dksJ4_compress_3_0 : cJ4_compress_3.data.toList.drop 0 = dktJ4_compress_3_0 := by decide +kernel
theorem dksJ4_compress_3_1 : cJ4_compress_3.data.toList.drop 23 = dktJ4_compress_3_1 := dk_seg dksJ4_compress_3_0 23 rfl rfl
theorem dksJ4_compress_3_2 : cJ4_compress_3.data.toList.drop 47 = dktJ4_compress_3_2 := dk_seg dksJ4_compress_3_1 24 rfl rfl
theorem dJ4_compress_3_0 : decode cJ4_compress_3 0 = .ok (.iload_n 2, 1) := dk_28 (dk_at dksJ4_compress_3_0 0 rfl rfl)
theorem dJ4_compress_3_1 : decode cJ4_compress_3 1 = .ok (.newarray .byte, 2) := dk_188_8 (dk_at dksJ4_compress_3_0 1 rfl rfl)
theorem dJ4_compress_3_3 : decode cJ4_compress_3 3 = .ok (.astore_n 3, 1) := dk_78 (dk_at dksJ4_compress_3_0 3 rfl rfl)
theorem dJ4_compress_3_4 : decode cJ4_compress_3 4 = .ok (.aload_n 0, 1) := dk_42 (dk_at dksJ4_compress_3_0 4 rfl rfl)
theorem dJ4_compress_3_5 : decode cJ4_compress_3 5 = .ok (.iload_n 1, 1) := dk_27 (dk_at dksJ4_compress_3_0 5 rfl rfl)
theorem dJ4_compress_3_6 : decode cJ4_compress_3 6 = .ok (.aload_n 3, 1) := dk_45 (dk_at dksJ4_compress_3_0 6 rfl rfl)
theorem dJ4_compress_3_7 : decode cJ4_compress_3 7 = .ok (.iconst 0, 1) := dk_3 (dk_at dksJ4_compress_3_0 7 rfl rfl)
theorem dJ4_compress_3_8 : decode cJ4_compress_3 8 = .ok (.iload_n 2, 1) := dk_28 (dk_at dksJ4_compress_3_0 8 rfl rfl)
theorem dJ4_compress_3_9 : decode cJ4_compress_3 9 = .ok (.invokestatic 115, 3) := dk_184 0 115 (dk_at dksJ4_compress_3_0 9 rfl rfl)
theorem dJ4_compress_3_12 : decode cJ4_compress_3 12 = .ok (.istore 4, 2) := dk_54 4 (dk_at dksJ4_compress_3_0 12 rfl rfl)
theorem dJ4_compress_3_14 : decode cJ4_compress_3 14 = .ok (.iload 4, 2) := dk_21 4 (dk_at dksJ4_compress_3_0 14 rfl rfl)
theorem dJ4_compress_3_16 : decode cJ4_compress_3 16 = .ok (.iload_n 2, 1) := dk_28 (dk_at dksJ4_compress_3_0 16 rfl rfl)
theorem dJ4_compress_3_17 : decode cJ4_compress_3 17 = .ok (.if_icmp .eq 40, 3) := dk_159 0 40 (dk_at dksJ4_compress_3_0 17 rfl rfl)
theorem dJ4_compress_3_20 : decode cJ4_compress_3 20 = .ok (.aload_n 0, 1) := dk_42 (dk_at dksJ4_compress_3_0 20 rfl rfl)
theorem dJ4_compress_3_21 : decode cJ4_compress_3 21 = .ok (.iload_n 1, 1) := dk_27 (dk_at dksJ4_compress_3_0 21 rfl rfl)
theorem dJ4_compress_3_22 : decode cJ4_compress_3 22 = .ok (.iload_n 2, 1) := dk_28 (dk_at dksJ4_compress_3_0 22 rfl rfl)
theorem dJ4_compress_3_23 : decode cJ4_compress_3 23 = .ok (.invokestatic 119, 3) := dk_184 0 119 (dk_at dksJ4_compress_3_1 0 rfl rfl)
theorem dJ4_compress_3_26 : decode cJ4_compress_3 26 = .ok (.astore 5, 2) := dk_58 5 (dk_at dksJ4_compress_3_1 3 rfl rfl)
theorem dJ4_compress_3_28 : decode cJ4_compress_3 28 = .ok (.aload 5, 2) := dk_25 5 (dk_at dksJ4_compress_3_1 5 rfl rfl)
theorem dJ4_compress_3_30 : decode cJ4_compress_3 30 = .ok (.iload 4, 2) := dk_21 4 (dk_at dksJ4_compress_3_1 7 rfl rfl)
theorem dJ4_compress_3_32 : decode cJ4_compress_3 32 = .ok (.invokestatic 71, 3) := dk_184 0 71 (dk_at dksJ4_compress_3_1 9 rfl rfl)
theorem dJ4_compress_3_35 : decode cJ4_compress_3 35 = .ok (.sipush 255, 3) := dk_17 0 255 (dk_at dksJ4_compress_3_1 12 rfl rfl)
theorem dJ4_compress_3_38 : decode cJ4_compress_3 38 = .ok (.if_icmp .gt 16, 3) := dk_163 0 16 (dk_at dksJ4_compress_3_1 15 rfl rfl)
theorem dJ4_compress_3_41 : decode cJ4_compress_3 41 = .ok (.aload 5, 2) := dk_25 5 (dk_at dksJ4_compress_3_1 18 rfl rfl)
theorem dJ4_compress_3_43 : decode cJ4_compress_3 43 = .ok (.iconst 0, 1) := dk_3 (dk_at dksJ4_compress_3_1 20 rfl rfl)
theorem dJ4_compress_3_44 : decode cJ4_compress_3 44 = .ok (.aload_n 3, 1) := dk_45 (dk_at dksJ4_compress_3_1 21 rfl rfl)
theorem dJ4_compress_3_45 : decode cJ4_compress_3 45 = .ok (.iconst 0, 1) := dk_3 (dk_at dksJ4_compress_3_1 22 rfl rfl)
theorem dJ4_compress_3_46 : decode cJ4_compress_3 46 = .ok (.iload_n 2, 1) := dk_28 (dk_at dksJ4_compress_3_1 23 rfl rfl)
theorem dJ4_compress_3_47 : decode cJ4_compress_3 47 = .ok (.invokestatic 123, 3) := dk_184 0 123 (dk_at dksJ4_compress_3_2 0 rfl rfl)
theorem dJ4_compress_3_50 : decode cJ4_compress_3 50 = .ok (.iload_n 2, 1) := dk_28 (dk_at dksJ4_compress_3_2 3 rfl rfl)
theorem dJ4_compress_3_51 : decode cJ4_compress_3 51 = .ok (.if_icmp .eq 6, 3) := dk_159 0 6 (dk_at dksJ4_compress_3_2 4 rfl rfl)
theorem dJ4_compress_3_54 : decode cJ4_compress_3 54 = .ok (.aload 5, 2) := dk_25 5 (dk_at dksJ4_compress_3_2 7 rfl rfl)
theorem dJ4_compress_3_56 : decode cJ4_compress_3 56 = .ok (.areturn, 1) := dk_176 (dk_at dksJ4_compress_3_2 9 rfl rfl)
theorem dJ4_compress_3_57 : decode cJ4_compress_3 57 = .ok (.aload_n 3, 1) := dk_45 (dk_at dksJ4_compress_3_2 10 rfl rfl)
theorem dJ4_compress_3_58 : decode cJ4_compress_3 58 = .ok (.areturn, 1) := dk_176 (dk_at dksJ4_compress_3_2 11 rfl rfl)
abbrev cJ4_compress_4 : ByteArray := prog_14_method_21_code
def yJ4_compress_4 : MethodName := ⟨RJ4, "compress", "([CI[BII)I"⟩
def dkwJ4_compress_4_1 : List UInt8 := [21, 5, 172, 44, 29, 21, 6, 145, 84, 132, 1, 1, 132, 3, 1, 132, 5, 1, 167, 255, 218, 21, 4, 172]
abbrev dktJ4_compress_4_1 : List UInt8 := dkwJ4_compress_4_1 ++ []
def dkwJ4_compress_4_0 : List UInt8 := [3, 54, 5, 21, 5, 21, 4, 162, 0, 37, 42, 27, 52, 54, 6, 21, 6, 17, 0, 255, 164, 0, 6]
abbrev dktJ4_compress_4_0 : List UInt8 := dkwJ4_compress_4_0 ++ dktJ4_compress_4_1
theorem dksJ4_compress_4_0 : cJ4_compress_4.data.toList.drop 0 = dktJ4_compress_4_0 := by decide +kernel
theorem dksJ4_compress_4_1 : cJ4_compress_4.data.toList.drop 23 = dktJ4_compress_4_1 := dk_seg dksJ4_compress_4_0 23 rfl rfl
theorem dJ4_compress_4_0 : decode cJ4_compress_4 0 = .ok (.iconst 0, 1) := dk_3 (dk_at dksJ4_compress_4_0 0 rfl rfl)
theorem dJ4_compress_4_1 : decode cJ4_compress_4 1 = .ok (.istore 5, 2) := dk_54 5 (dk_at dksJ4_compress_4_0 1 rfl rfl)
theorem dJ4_compress_4_3 : decode cJ4_compress_4 3 = .ok (.iload 5, 2) := dk_21 5 (dk_at dksJ4_compress_4_0 3 rfl rfl)
theorem dJ4_compress_4_5 : decode cJ4_compress_4 5 = .ok (.iload 4, 2) := dk_21 4 (dk_at dksJ4_compress_4_0 5 rfl rfl)
theorem dJ4_compress_4_7 : decode cJ4_compress_4 7 = .ok (.if_icmp .ge 37, 3) := dk_162 0 37 (dk_at dksJ4_compress_4_0 7 rfl rfl)
theorem dJ4_compress_4_10 : decode cJ4_compress_4 10 = .ok (.aload_n 0, 1) := dk_42 (dk_at dksJ4_compress_4_0 10 rfl rfl)
theorem dJ4_compress_4_11 : decode cJ4_compress_4 11 = .ok (.iload_n 1, 1) := dk_27 (dk_at dksJ4_compress_4_0 11 rfl rfl)
theorem dJ4_compress_4_12 : decode cJ4_compress_4 12 = .ok (.caload, 1) := dk_52 (dk_at dksJ4_compress_4_0 12 rfl rfl)
theorem dJ4_compress_4_13 : decode cJ4_compress_4 13 = .ok (.istore 6, 2) := dk_54 6 (dk_at dksJ4_compress_4_0 13 rfl rfl)
theorem dJ4_compress_4_15 : decode cJ4_compress_4 15 = .ok (.iload 6, 2) := dk_21 6 (dk_at dksJ4_compress_4_0 15 rfl rfl)
theorem dJ4_compress_4_17 : decode cJ4_compress_4 17 = .ok (.sipush 255, 3) := dk_17 0 255 (dk_at dksJ4_compress_4_0 17 rfl rfl)
theorem dJ4_compress_4_20 : decode cJ4_compress_4 20 = .ok (.if_icmp .le 6, 3) := dk_164 0 6 (dk_at dksJ4_compress_4_0 20 rfl rfl)
theorem dJ4_compress_4_23 : decode cJ4_compress_4 23 = .ok (.iload 5, 2) := dk_21 5 (dk_at dksJ4_compress_4_1 0 rfl rfl)
theorem dJ4_compress_4_25 : decode cJ4_compress_4 25 = .ok (.ireturn, 1) := dk_172 (dk_at dksJ4_compress_4_1 2 rfl rfl)
theorem dJ4_compress_4_26 : decode cJ4_compress_4 26 = .ok (.aload_n 2, 1) := dk_44 (dk_at dksJ4_compress_4_1 3 rfl rfl)
theorem dJ4_compress_4_27 : decode cJ4_compress_4 27 = .ok (.iload_n 3, 1) := dk_29 (dk_at dksJ4_compress_4_1 4 rfl rfl)
theorem dJ4_compress_4_28 : decode cJ4_compress_4 28 = .ok (.iload 6, 2) := dk_21 6 (dk_at dksJ4_compress_4_1 5 rfl rfl)
theorem dJ4_compress_4_30 : decode cJ4_compress_4 30 = .ok (.i2b, 1) := dk_145 (dk_at dksJ4_compress_4_1 7 rfl rfl)
theorem dJ4_compress_4_31 : decode cJ4_compress_4 31 = .ok (.bastore, 1) := dk_84 (dk_at dksJ4_compress_4_1 8 rfl rfl)
theorem dJ4_compress_4_32 : decode cJ4_compress_4 32 = .ok (.iinc 1 1, 3) := dk_132 1 1 (dk_at dksJ4_compress_4_1 9 rfl rfl)
theorem dJ4_compress_4_35 : decode cJ4_compress_4 35 = .ok (.iinc 3 1, 3) := dk_132 3 1 (dk_at dksJ4_compress_4_1 12 rfl rfl)
theorem dJ4_compress_4_38 : decode cJ4_compress_4 38 = .ok (.iinc 5 1, 3) := dk_132 5 1 (dk_at dksJ4_compress_4_1 15 rfl rfl)
theorem dJ4_compress_4_41 : decode cJ4_compress_4 41 = .ok (.goto (-38), 3) := dk_167 255 218 (dk_at dksJ4_compress_4_1 18 rfl rfl)
theorem dJ4_compress_4_44 : decode cJ4_compress_4 44 = .ok (.iload 4, 2) := dk_21 4 (dk_at dksJ4_compress_4_1 21 rfl rfl)
theorem dJ4_compress_4_46 : decode cJ4_compress_4 46 = .ok (.ireturn, 1) := dk_172 (dk_at dksJ4_compress_4_1 23 rfl rfl)
/-! java/lang/Character -/
set_option maxRecDepth 100000
def RJ5 : String := "java/lang/Character"
abbrev cJ5_isHighSurrogate : ByteArray := prog_8_method_14_code
def yJ5_isHighSurrogate : MethodName := ⟨RJ5, "isHighSurrogate", "(C)Z"⟩
def dkwJ5_isHighSurrogate_0 : List UInt8 := [26, 18, 75, 161, 0, 13, 26, 18, 76, 162, 0, 7, 4, 167, 0, 4, 3, 172]
abbrev dktJ5_isHighSurrogate_0 : List UInt8 := dkwJ5_isHighSurrogate_0 ++ []
theorem dksJ5_isHighSurrogate_0 : cJ5_isHighSurrogate.data.toList.drop 0 = dktJ5_isHighSurrogate_0 := by decide +kernel
theorem dJ5_isHighSurrogate_0 : decode cJ5_isHighSurrogate 0 = .ok (.iload_n 0, 1) := dk_26 (dk_at dksJ5_isHighSurrogate_0 0 rfl rfl)
theorem dJ5_isHighSurrogate_1 : decode cJ5_isHighSurrogate 1 = .ok (.ldc 75, 2) := dk_18 75 (dk_at dksJ5_isHighSurrogate_0 1 rfl rfl)
theorem dJ5_isHighSurrogate_3 : decode cJ5_isHighSurrogate 3 = .ok (.if_icmp .lt 13, 3) := dk_161 0 13 (dk_at dksJ5_isHighSurrogate_0 3 rfl rfl)
theorem dJ5_isHighSurrogate_6 : decode cJ5_isHighSurrogate 6 = .ok (.iload_n 0, 1) := dk_26 (dk_at dksJ5_isHighSurrogate_0 6 rfl rfl)
theorem dJ5_isHighSurrogate_7 : decode cJ5_isHighSurrogate 7 = .ok (.ldc 76, 2) := dk_18 76 (dk_at dksJ5_isHighSurrogate_0 7 rfl rfl)
theorem dJ5_isHighSurrogate_9 : decode cJ5_isHighSurrogate 9 = .ok (.if_icmp .ge 7, 3) := dk_162 0 7 (dk_at dksJ5_isHighSurrogate_0 9 rfl rfl)
theorem dJ5_isHighSurrogate_12 : decode cJ5_isHighSurrogate 12 = .ok (.iconst 1, 1) := dk_4 (dk_at dksJ5_isHighSurrogate_0 12 rfl rfl)
theorem dJ5_isHighSurrogate_13 : decode cJ5_isHighSurrogate 13 = .ok (.goto 4, 3) := dk_167 0 4 (dk_at dksJ5_isHighSurrogate_0 13 rfl rfl)
theorem dJ5_isHighSurrogate_16 : decode cJ5_isHighSurrogate 16 = .ok (.iconst 0, 1) := dk_3 (dk_at dksJ5_isHighSurrogate_0 16 rfl rfl)
theorem dJ5_isHighSurrogate_17 : decode cJ5_isHighSurrogate 17 = .ok (.ireturn, 1) := dk_172 (dk_at dksJ5_isHighSurrogate_0 17 rfl rfl)
/-! java/util/Arrays -/
set_option maxRecDepth 100000
def RJ6 : String := "java/util/Arrays"
abbrev cJ6_copyOfRange : ByteArray := prog_16_method_132_code
def yJ6_copyOfRange : MethodName := ⟨RJ6, "copyOfRange", "([BII)[B"⟩
def dkwJ6_copyOfRange_1 : List UInt8 := [176]
abbrev dktJ6_copyOfRange_1 : List UInt8 := dkwJ6_copyOfRange_1 ++ []
def dkwJ6_copyOfRange_0 : List UInt8 := [27, 154, 0, 9, 28, 42, 190, 159, 0, 10, 42, 27, 28, 184, 1, 83, 176, 42, 182, 1, 54, 192, 1, 55]
abbrev dktJ6_copyOfRange_0 : List UInt8 := dkwJ6_copyOfRange_0 ++ dktJ6_copyOfRange_1
theorem dksJ6_copyOfRange_0 : cJ6_copyOfRange.data.toList.drop 0 = dktJ6_copyOfRange_0 := by decide +kernel
theorem dksJ6_copyOfRange_1 : cJ6_copyOfRange.data.toList.drop 24 = dktJ6_copyOfRange_1 := dk_seg dksJ6_copyOfRange_0 24 rfl rfl
theorem dJ6_copyOfRange_0 : decode cJ6_copyOfRange 0 = .ok (.iload_n 1, 1) := dk_27 (dk_at dksJ6_copyOfRange_0 0 rfl rfl)
theorem dJ6_copyOfRange_1 : decode cJ6_copyOfRange 1 = .ok (.ifCond .ne 9, 3) := dk_154 0 9 (dk_at dksJ6_copyOfRange_0 1 rfl rfl)
theorem dJ6_copyOfRange_4 : decode cJ6_copyOfRange 4 = .ok (.iload_n 2, 1) := dk_28 (dk_at dksJ6_copyOfRange_0 4 rfl rfl)
theorem dJ6_copyOfRange_5 : decode cJ6_copyOfRange 5 = .ok (.aload_n 0, 1) := dk_42 (dk_at dksJ6_copyOfRange_0 5 rfl rfl)
theorem dJ6_copyOfRange_6 : decode cJ6_copyOfRange 6 = .ok (.arraylength, 1) := dk_190 (dk_at dksJ6_copyOfRange_0 6 rfl rfl)
theorem dJ6_copyOfRange_7 : decode cJ6_copyOfRange 7 = .ok (.if_icmp .eq 10, 3) := dk_159 0 10 (dk_at dksJ6_copyOfRange_0 7 rfl rfl)
theorem dJ6_copyOfRange_10 : decode cJ6_copyOfRange 10 = .ok (.aload_n 0, 1) := dk_42 (dk_at dksJ6_copyOfRange_0 10 rfl rfl)
theorem dJ6_copyOfRange_11 : decode cJ6_copyOfRange 11 = .ok (.iload_n 1, 1) := dk_27 (dk_at dksJ6_copyOfRange_0 11 rfl rfl)
theorem dJ6_copyOfRange_12 : decode cJ6_copyOfRange 12 = .ok (.iload_n 2, 1) := dk_28 (dk_at dksJ6_copyOfRange_0 12 rfl rfl)
theorem dJ6_copyOfRange_13 : decode cJ6_copyOfRange 13 = .ok (.invokestatic 339, 3) := dk_184 1 83 (dk_at dksJ6_copyOfRange_0 13 rfl rfl)
theorem dJ6_copyOfRange_16 : decode cJ6_copyOfRange 16 = .ok (.areturn, 1) := dk_176 (dk_at dksJ6_copyOfRange_0 16 rfl rfl)
theorem dJ6_copyOfRange_17 : decode cJ6_copyOfRange 17 = .ok (.aload_n 0, 1) := dk_42 (dk_at dksJ6_copyOfRange_0 17 rfl rfl)
theorem dJ6_copyOfRange_18 : decode cJ6_copyOfRange 18 = .ok (.invokevirtual 310, 3) := dk_182 1 54 (dk_at dksJ6_copyOfRange_0 18 rfl rfl)
theorem dJ6_copyOfRange_21 : decode cJ6_copyOfRange 21 = .ok (.checkcast 311, 3) := dk_192 1 55 (dk_at dksJ6_copyOfRange_0 21 rfl rfl)
theorem dJ6_copyOfRange_24 : decode cJ6_copyOfRange 24 = .ok (.areturn, 1) := dk_176 (dk_at dksJ6_copyOfRange_1 0 rfl rfl)
abbrev cJ6_copyOfRangeByte : ByteArray := prog_16_method_133_code
def yJ6_copyOfRangeByte : MethodName := ⟨RJ6, "copyOfRangeByte", "([BII)[B"⟩
def dkwJ6_copyOfRangeByte_1 : List UInt8 := [184, 1, 48, 184, 0, 150, 25, 4, 176]
abbrev dktJ6_copyOfRangeByte_1 : List UInt8 := dkwJ6_copyOfRangeByte_1 ++ []
def dkwJ6_copyOfRangeByte_0 : List UInt8 := [27, 28, 184, 1, 87, 28, 27, 100, 62, 29, 188, 8, 58, 4, 42, 27, 25, 4, 3, 42, 190, 27, 100, 29]
abbrev dktJ6_copyOfRangeByte_0 : List UInt8 := dkwJ6_copyOfRangeByte_0 ++ dktJ6_copyOfRangeByte_1
theorem dksJ6_copyOfRangeByte_0 : cJ6_copyOfRangeByte.data.toList.drop 0 = dktJ6_copyOfRangeByte_0 := by decide +kernel
theorem dksJ6_copyOfRangeByte_1 : cJ6_copyOfRangeByte.data.toList.drop 24 = dktJ6_copyOfRangeByte_1 := dk_seg dksJ6_copyOfRangeByte_0 24 rfl rfl
theorem dJ6_copyOfRangeByte_0 : decode cJ6_copyOfRangeByte 0 = .ok (.iload_n 1, 1) := dk_27 (dk_at dksJ6_copyOfRangeByte_0 0 rfl rfl)
theorem dJ6_copyOfRangeByte_1 : decode cJ6_copyOfRangeByte 1 = .ok (.iload_n 2, 1) := dk_28 (dk_at dksJ6_copyOfRangeByte_0 1 rfl rfl)
theorem dJ6_copyOfRangeByte_2 : decode cJ6_copyOfRangeByte 2 = .ok (.invokestatic 343, 3) := dk_184 1 87 (dk_at dksJ6_copyOfRangeByte_0 2 rfl rfl)
theorem dJ6_copyOfRangeByte_5 : decode cJ6_copyOfRangeByte 5 = .ok (.iload_n 2, 1) := dk_28 (dk_at dksJ6_copyOfRangeByte_0 5 rfl rfl)
theorem dJ6_copyOfRangeByte_6 : decode cJ6_copyOfRangeByte 6 = .ok (.iload_n 1, 1) := dk_27 (dk_at dksJ6_copyOfRangeByte_0 6 rfl rfl)
theorem dJ6_copyOfRangeByte_7 : decode cJ6_copyOfRangeByte 7 = .ok (.isub, 1) := dk_100 (dk_at dksJ6_copyOfRangeByte_0 7 rfl rfl)
theorem dJ6_copyOfRangeByte_8 : decode cJ6_copyOfRangeByte 8 = .ok (.istore_n 3, 1) := dk_62 (dk_at dksJ6_copyOfRangeByte_0 8 rfl rfl)
theorem dJ6_copyOfRangeByte_9 : decode cJ6_copyOfRangeByte 9 = .ok (.iload_n 3, 1) := dk_29 (dk_at dksJ6_copyOfRangeByte_0 9 rfl rfl)
theorem dJ6_copyOfRangeByte_10 : decode cJ6_copyOfRangeByte 10 = .ok (.newarray .byte, 2) := dk_188_8 (dk_at dksJ6_copyOfRangeByte_0 10 rfl rfl)
theorem dJ6_copyOfRangeByte_12 : decode cJ6_copyOfRangeByte 12 = .ok (.astore 4, 2) := dk_58 4 (dk_at dksJ6_copyOfRangeByte_0 12 rfl rfl)
theorem dJ6_copyOfRangeByte_14 : decode cJ6_copyOfRangeByte 14 = .ok (.aload_n 0, 1) := dk_42 (dk_at dksJ6_copyOfRangeByte_0 14 rfl rfl)
theorem dJ6_copyOfRangeByte_15 : decode cJ6_copyOfRangeByte 15 = .ok (.iload_n 1, 1) := dk_27 (dk_at dksJ6_copyOfRangeByte_0 15 rfl rfl)
theorem dJ6_copyOfRangeByte_16 : decode cJ6_copyOfRangeByte 16 = .ok (.aload 4, 2) := dk_25 4 (dk_at dksJ6_copyOfRangeByte_0 16 rfl rfl)
theorem dJ6_copyOfRangeByte_18 : decode cJ6_copyOfRangeByte 18 = .ok (.iconst 0, 1) := dk_3 (dk_at dksJ6_copyOfRangeByte_0 18 rfl rfl)
theorem dJ6_copyOfRangeByte_19 : decode cJ6_copyOfRangeByte 19 = .ok (.aload_n 0, 1) := dk_42 (dk_at dksJ6_copyOfRangeByte_0 19 rfl rfl)
theorem dJ6_copyOfRangeByte_20 : decode cJ6_copyOfRangeByte 20 = .ok (.arraylength, 1) := dk_190 (dk_at dksJ6_copyOfRangeByte_0 20 rfl rfl)
theorem dJ6_copyOfRangeByte_21 : decode cJ6_copyOfRangeByte 21 = .ok (.iload_n 1, 1) := dk_27 (dk_at dksJ6_copyOfRangeByte_0 21 rfl rfl)
theorem dJ6_copyOfRangeByte_22 : decode cJ6_copyOfRangeByte 22 = .ok (.isub, 1) := dk_100 (dk_at dksJ6_copyOfRangeByte_0 22 rfl rfl)
theorem dJ6_copyOfRangeByte_23 : decode cJ6_copyOfRangeByte 23 = .ok (.iload_n 3, 1) := dk_29 (dk_at dksJ6_copyOfRangeByte_0 23 rfl rfl)
theorem dJ6_copyOfRangeByte_24 : decode cJ6_copyOfRangeByte 24 = .ok (.invokestatic 304, 3) := dk_184 1 48 (dk_at dksJ6_copyOfRangeByte_1 0 rfl rfl)
theorem dJ6_copyOfRangeByte_27 : decode cJ6_copyOfRangeByte 27 = .ok (.invokestatic 150, 3) := dk_184 0 150 (dk_at dksJ6_copyOfRangeByte_1 3 rfl rfl)
theorem dJ6_copyOfRangeByte_30 : decode cJ6_copyOfRangeByte 30 = .ok (.aload 4, 2) := dk_25 4 (dk_at dksJ6_copyOfRangeByte_1 6 rfl rfl)
theorem dJ6_copyOfRangeByte_32 : decode cJ6_copyOfRangeByte 32 = .ok (.areturn, 1) := dk_176 (dk_at dksJ6_copyOfRangeByte_1 8 rfl rfl)
abbrev cJ6_checkLength : ByteArray := prog_16_method_131_code
def yJ6_checkLength : MethodName := ⟨RJ6, "checkLength", "(II)V"⟩
def dkwJ6_checkLength_1 : List UInt8 := [182, 0, 50, 27, 182, 0, 54, 182, 0, 61, 183, 0, 65, 191, 177]
abbrev dktJ6_checkLength_1 : List UInt8 := dkwJ6_checkLength_1 ++ []
def dkwJ6_checkLength_0 : List UInt8 := [27, 26, 162, 0, 35, 187, 0, 43, 89, 187, 0, 45, 89, 183, 0, 47, 26, 182, 0, 54, 19, 1, 81]
abbrev dktJ6_checkLength_0 : List UInt8 := dkwJ6_checkLength_0 ++ dktJ6_checkLength_1
theorem dksJ6_checkLength_0 : cJ6_checkLength.data.toList.drop 0 = dktJ6_checkLength_0 := by decide +kernel
theorem dksJ6_checkLength_1 : cJ6_checkLength.data.toList.drop 23 = dktJ6_checkLength_1 := dk_seg dksJ6_checkLength_0 23 rfl rfl
theorem dJ6_checkLength_0 : decode cJ6_checkLength 0 = .ok (.iload_n 1, 1) := dk_27 (dk_at dksJ6_checkLength_0 0 rfl rfl)
theorem dJ6_checkLength_1 : decode cJ6_checkLength 1 = .ok (.iload_n 0, 1) := dk_26 (dk_at dksJ6_checkLength_0 1 rfl rfl)
theorem dJ6_checkLength_2 : decode cJ6_checkLength 2 = .ok (.if_icmp .ge 35, 3) := dk_162 0 35 (dk_at dksJ6_checkLength_0 2 rfl rfl)
theorem dJ6_checkLength_5 : decode cJ6_checkLength 5 = .ok (.new 43, 3) := dk_187 0 43 (dk_at dksJ6_checkLength_0 5 rfl rfl)
theorem dJ6_checkLength_8 : decode cJ6_checkLength 8 = .ok (.dup, 1) := dk_89 (dk_at dksJ6_checkLength_0 8 rfl rfl)
theorem dJ6_checkLength_9 : decode cJ6_checkLength 9 = .ok (.new 45, 3) := dk_187 0 45 (dk_at dksJ6_checkLength_0 9 rfl rfl)
theorem dJ6_checkLength_12 : decode cJ6_checkLength 12 = .ok (.dup, 1) := dk_89 (dk_at dksJ6_checkLength_0 12 rfl rfl)
theorem dJ6_checkLength_13 : decode cJ6_checkLength 13 = .ok (.invokespecial 47, 3) := dk_183 0 47 (dk_at dksJ6_checkLength_0 13 rfl rfl)
theorem dJ6_checkLength_16 : decode cJ6_checkLength 16 = .ok (.iload_n 0, 1) := dk_26 (dk_at dksJ6_checkLength_0 16 rfl rfl)
theorem dJ6_checkLength_17 : decode cJ6_checkLength 17 = .ok (.invokevirtual 54, 3) := dk_182 0 54 (dk_at dksJ6_checkLength_0 17 rfl rfl)
theorem dJ6_checkLength_20 : decode cJ6_checkLength 20 = .ok (.ldc_w 337, 3) := dk_19 1 81 (dk_at dksJ6_checkLength_0 20 rfl rfl)
theorem dJ6_checkLength_23 : decode cJ6_checkLength 23 = .ok (.invokevirtual 50, 3) := dk_182 0 50 (dk_at dksJ6_checkLength_1 0 rfl rfl)
theorem dJ6_checkLength_26 : decode cJ6_checkLength 26 = .ok (.iload_n 1, 1) := dk_27 (dk_at dksJ6_checkLength_1 3 rfl rfl)
theorem dJ6_checkLength_27 : decode cJ6_checkLength 27 = .ok (.invokevirtual 54, 3) := dk_182 0 54 (dk_at dksJ6_checkLength_1 4 rfl rfl)
theorem dJ6_checkLength_30 : decode cJ6_checkLength 30 = .ok (.invokevirtual 61, 3) := dk_182 0 61 (dk_at dksJ6_checkLength_1 7 rfl rfl)
theorem dJ6_checkLength_33 : decode cJ6_checkLength 33 = .ok (.invokespecial 65, 3) := dk_183 0 65 (dk_at dksJ6_checkLength_1 10 rfl rfl)
theorem dJ6_checkLength_36 : decode cJ6_checkLength 36 = .ok (.athrow, 1) := dk_191 (dk_at dksJ6_checkLength_1 13 rfl rfl)
theorem dJ6_checkLength_37 : decode cJ6_checkLength 37 = .ok (.return_, 1) := dk_177 (dk_at dksJ6_checkLength_1 14 rfl rfl)
/-! java/lang/AbstractStringBuilder -/
set_option maxRecDepth 100000
def RJ7 : String := "java/lang/AbstractStringBuilder"
abbrev cJ7_init : ByteArray := prog_6_method_3_code
def yJ7_init : MethodName := ⟨RJ7, "<init>", "(Ljava/lang/String;)V"⟩
def dkwJ7_init_2 : List UInt8 := [167, 0, 7, 29, 184, 0, 26, 181, 0, 15, 42, 43, 182, 0, 43, 87, 177]
abbrev dktJ7_init_2 : List UInt8 := dkwJ7_init_2 ++ []
def dkwJ7_init_1 : List UInt8 := [62, 43, 182, 0, 40, 54, 4, 42, 21, 4, 181, 0, 22, 42, 21, 4, 154, 0, 9, 29, 188, 8]
abbrev dktJ7_init_1 : List UInt8 := dkwJ7_init_1 ++ dktJ7_init_2
def dkwJ7_init_0 : List UInt8 := [42, 183, 0, 3, 43, 182, 0, 32, 61, 28, 18, 38, 162, 0, 10, 28, 16, 16, 96, 167, 0, 5, 18, 39]
abbrev dktJ7_init_0 : List UInt8 := dkwJ7_init_0 ++ dktJ7_init_1
theorem dksJ7_init_0 : cJ7_init.data.toList.drop 0 = dktJ7_init_0 := by decide +kernel
theorem dksJ7_init_1 : cJ7_init.data.toList.drop 24 = dktJ7_init_1 := dk_seg dksJ7_init_0 24 rfl rfl
theorem dksJ7_init_2 : cJ7_init.data.toList.drop 46 = dktJ7_init_2 := dk_seg dksJ7_init_1 22 rfl rfl
theorem dJ7_init_0 : decode cJ7_init 0 = .ok (.aload_n 0, 1) := dk_42 (dk_at dksJ7_init_0 0 rfl rfl)
theorem dJ7_init_1 : decode cJ7_init 1 = .ok (.invokespecial 3, 3) := dk_183 0 3 (dk_at dksJ7_init_0 1 rfl rfl)
theorem dJ7_init_4 : decode cJ7_init 4 = .ok (.aload_n 1, 1) := dk_43 (dk_at dksJ7_init_0 4 rfl rfl)
theorem dJ7_init_5 : decode cJ7_init 5 = .ok (.invokevirtual 32, 3) := dk_182 0 32 (dk_at dksJ7_init_0 5 rfl rfl)
theorem dJ7_init_8 : decode cJ7_init 8 = .ok (.istore_n 2, 1) := dk_61 (dk_at dksJ7_init_0 8 rfl rfl)
theorem dJ7_init_9 : decode cJ7_init 9 = .ok (.iload_n 2, 1) := dk_28 (dk_at dksJ7_init_0 9 rfl rfl)
theorem dJ7_init_10 : decode cJ7_init 10 = .ok (.ldc 38, 2) := dk_18 38 (dk_at dksJ7_init_0 10 rfl rfl)
theorem dJ7_init_12 : decode cJ7_init 12 = .ok (.if_icmp .ge 10, 3) := dk_162 0 10 (dk_at dksJ7_init_0 12 rfl rfl)
theorem dJ7_init_15 : decode cJ7_init 15 = .ok (.iload_n 2, 1) := dk_28 (dk_at dksJ7_init_0 15 rfl rfl)
theorem dJ7_init_16 : decode cJ7_init 16 = .ok (.bipush 16, 2) := dk_16 16 (dk_at dksJ7_init_0 16 rfl rfl)
theorem dJ7_init_18 : decode cJ7_init 18 = .ok (.iadd, 1) := dk_96 (dk_at dksJ7_init_0 18 rfl rfl)
theorem dJ7_init_19 : decode cJ7_init 19 = .ok (.goto 5, 3) := dk_167 0 5 (dk_at dksJ7_init_0 19 rfl rfl)
theorem dJ7_init_22 : decode cJ7_init 22 = .ok (.ldc 39, 2) := dk_18 39 (dk_at dksJ7_init_0 22 rfl rfl)
theorem dJ7_init_24 : decode cJ7_init 24 = .ok (.istore_n 3, 1) := dk_62 (dk_at dksJ7_init_1 0 rfl rfl)
theorem dJ7_init_25 : decode cJ7_init 25 = .ok (.aload_n 1, 1) := dk_43 (dk_at dksJ7_init_1 1 rfl rfl)
theorem dJ7_init_26 : decode cJ7_init 26 = .ok (.invokevirtual 40, 3) := dk_182 0 40 (dk_at dksJ7_init_1 2 rfl rfl)
theorem dJ7_init_29 : decode cJ7_init 29 = .ok (.istore 4, 2) := dk_54 4 (dk_at dksJ7_init_1 5 rfl rfl)
theorem dJ7_init_31 : decode cJ7_init 31 = .ok (.aload_n 0, 1) := dk_42 (dk_at dksJ7_init_1 7 rfl rfl)
theorem dJ7_init_32 : decode cJ7_init 32 = .ok (.iload 4, 2) := dk_21 4 (dk_at dksJ7_init_1 8 rfl rfl)
theorem dJ7_init_34 : decode cJ7_init 34 = .ok (.putfield 22, 3) := dk_181 0 22 (dk_at dksJ7_init_1 10 rfl rfl)
theorem dJ7_init_37 : decode cJ7_init 37 = .ok (.aload_n 0, 1) := dk_42 (dk_at dksJ7_init_1 13 rfl rfl)
theorem dJ7_init_38 : decode cJ7_init 38 = .ok (.iload 4, 2) := dk_21 4 (dk_at dksJ7_init_1 14 rfl rfl)
theorem dJ7_init_40 : decode cJ7_init 40 = .ok (.ifCond .ne 9, 3) := dk_154 0 9 (dk_at dksJ7_init_1 16 rfl rfl)
theorem dJ7_init_43 : decode cJ7_init 43 = .ok (.iload_n 3, 1) := dk_29 (dk_at dksJ7_init_1 19 rfl rfl)
theorem dJ7_init_44 : decode cJ7_init 44 = .ok (.newarray .byte, 2) := dk_188_8 (dk_at dksJ7_init_1 20 rfl rfl)
theorem dJ7_init_46 : decode cJ7_init 46 = .ok (.goto 7, 3) := dk_167 0 7 (dk_at dksJ7_init_2 0 rfl rfl)
theorem dJ7_init_49 : decode cJ7_init 49 = .ok (.iload_n 3, 1) := dk_29 (dk_at dksJ7_init_2 3 rfl rfl)
theorem dJ7_init_50 : decode cJ7_init 50 = .ok (.invokestatic 26, 3) := dk_184 0 26 (dk_at dksJ7_init_2 4 rfl rfl)
theorem dJ7_init_53 : decode cJ7_init 53 = .ok (.putfield 15, 3) := dk_181 0 15 (dk_at dksJ7_init_2 7 rfl rfl)
theorem dJ7_init_56 : decode cJ7_init 56 = .ok (.aload_n 0, 1) := dk_42 (dk_at dksJ7_init_2 10 rfl rfl)
theorem dJ7_init_57 : decode cJ7_init 57 = .ok (.aload_n 1, 1) := dk_43 (dk_at dksJ7_init_2 11 rfl rfl)
theorem dJ7_init_58 : decode cJ7_init 58 = .ok (.invokevirtual 43, 3) := dk_182 0 43 (dk_at dksJ7_init_2 12 rfl rfl)
theorem dJ7_init_61 : decode cJ7_init 61 = .ok (.pop, 1) := dk_87 (dk_at dksJ7_init_2 15 rfl rfl)
theorem dJ7_init_62 : decode cJ7_init 62 = .ok (.return_, 1) := dk_177 (dk_at dksJ7_init_2 16 rfl rfl)
abbrev cJ7_append : ByteArray := prog_6_method_22_code
def yJ7_append : MethodName := ⟨RJ7, "append", "(Ljava/lang/String;)Ljava/lang/AbstractStringBuilder;"⟩
def dkwJ7_append_1 : List UInt8 := [42, 42, 180, 0, 79, 43, 182, 0, 208, 42, 89, 180, 0, 79, 28, 96, 181, 0, 79, 42, 176]
abbrev dktJ7_append_1 : List UInt8 := dkwJ7_append_1 ++ []
def dkwJ7_append_0 : List UInt8 := [43, 199, 0, 8, 42, 182, 0, 204, 176, 43, 182, 0, 32, 61, 42, 42, 180, 0, 79, 28, 96, 182, 0, 100]
abbrev dktJ7_append_0 : List UInt8 := dkwJ7_append_0 ++ dktJ7_append_1
theorem dksJ7_append_0 : cJ7_append.data.toList.drop 0 = dktJ7_append_0 := by decide +kernel
theorem dksJ7_append_1 : cJ7_append.data.toList.drop 24 = dktJ7_append_1 := dk_seg dksJ7_append_0 24 rfl rfl
theorem dJ7_append_0 : decode cJ7_append 0 = .ok (.aload_n 1, 1) := dk_43 (dk_at dksJ7_append_0 0 rfl rfl)
theorem dJ7_append_1 : decode cJ7_append 1 = .ok (.ifnonnull 8, 3) := dk_199 0 8 (dk_at dksJ7_append_0 1 rfl rfl)
theorem dJ7_append_4 : decode cJ7_append 4 = .ok (.aload_n 0, 1) := dk_42 (dk_at dksJ7_append_0 4 rfl rfl)
theorem dJ7_append_5 : decode cJ7_append 5 = .ok (.invokevirtual 204, 3) := dk_182 0 204 (dk_at dksJ7_append_0 5 rfl rfl)
theorem dJ7_append_8 : decode cJ7_append 8 = .ok (.areturn, 1) := dk_176 (dk_at dksJ7_append_0 8 rfl rfl)
theorem dJ7_append_9 : decode cJ7_append 9 = .ok (.aload_n 1, 1) := dk_43 (dk_at dksJ7_append_0 9 rfl rfl)
theorem dJ7_append_10 : decode cJ7_append 10 = .ok (.invokevirtual 32, 3) := dk_182 0 32 (dk_at dksJ7_append_0 10 rfl rfl)
theorem dJ7_append_13 : decode cJ7_append 13 = .ok (.istore_n 2, 1) := dk_61 (dk_at dksJ7_append_0 13 rfl rfl)
theorem dJ7_append_14 : decode cJ7_append 14 = .ok (.aload_n 0, 1) := dk_42 (dk_at dksJ7_append_0 14 rfl rfl)
theorem dJ7_append_15 : decode cJ7_append 15 = .ok (.aload_n 0, 1) := dk_42 (dk_at dksJ7_append_0 15 rfl rfl)
theorem dJ7_append_16 : decode cJ7_append 16 = .ok (.getfield 79, 3) := dk_180 0 79 (dk_at dksJ7_append_0 16 rfl rfl)
theorem dJ7_append_19 : decode cJ7_append 19 = .ok (.iload_n 2, 1) := dk_28 (dk_at dksJ7_append_0 19 rfl rfl)
theorem dJ7_append_20 : decode cJ7_append 20 = .ok (.iadd, 1) := dk_96 (dk_at dksJ7_append_0 20 rfl rfl)
theorem dJ7_append_21 : decode cJ7_append 21 = .ok (.invokevirtual 100, 3) := dk_182 0 100 (dk_at dksJ7_append_0 21 rfl rfl)
theorem dJ7_append_24 : decode cJ7_append 24 = .ok (.aload_n 0, 1) := dk_42 (dk_at dksJ7_append_1 0 rfl rfl)
theorem dJ7_append_25 : decode cJ7_append 25 = .ok (.aload_n 0, 1) := dk_42 (dk_at dksJ7_append_1 1 rfl rfl)
theorem dJ7_append_26 : decode cJ7_append 26 = .ok (.getfield 79, 3) := dk_180 0 79 (dk_at dksJ7_append_1 2 rfl rfl)
theorem dJ7_append_29 : decode cJ7_append 29 = .ok (.aload_n 1, 1) := dk_43 (dk_at dksJ7_append_1 5 rfl rfl)
theorem dJ7_append_30 : decode cJ7_append 30 = .ok (.invokevirtual 208, 3) := dk_182 0 208 (dk_at dksJ7_append_1 6 rfl rfl)
theorem dJ7_append_33 : decode cJ7_append 33 = .ok (.aload_n 0, 1) := dk_42 (dk_at dksJ7_append_1 9 rfl rfl)
theorem dJ7_append_34 : decode cJ7_append 34 = .ok (.dup, 1) := dk_89 (dk_at dksJ7_append_1 10 rfl rfl)
theorem dJ7_append_35 : decode cJ7_append 35 = .ok (.getfield 79, 3) := dk_180 0 79 (dk_at dksJ7_append_1 11 rfl rfl)
theorem dJ7_append_38 : decode cJ7_append 38 = .ok (.iload_n 2, 1) := dk_28 (dk_at dksJ7_append_1 14 rfl rfl)
theorem dJ7_append_39 : decode cJ7_append 39 = .ok (.iadd, 1) := dk_96 (dk_at dksJ7_append_1 15 rfl rfl)
theorem dJ7_append_40 : decode cJ7_append 40 = .ok (.putfield 79, 3) := dk_181 0 79 (dk_at dksJ7_append_1 16 rfl rfl)
theorem dJ7_append_43 : decode cJ7_append 43 = .ok (.aload_n 0, 1) := dk_42 (dk_at dksJ7_append_1 19 rfl rfl)
theorem dJ7_append_44 : decode cJ7_append 44 = .ok (.areturn, 1) := dk_176 (dk_at dksJ7_append_1 20 rfl rfl)
abbrev cJ7_ensureCapacityInternal : ByteArray := prog_6_method_9_code
def yJ7_ensureCapacityInternal : MethodName := ⟨RJ7, "ensureCapacityInternal", "(I)V"⟩
def dkwJ7_ensureCapacityInternal_1 : List UInt8 := [182, 0, 104, 42, 180, 0, 22, 120, 184, 0, 108, 181, 0, 15, 177]
abbrev dktJ7_ensureCapacityInternal_1 : List UInt8 := dkwJ7_ensureCapacityInternal_1 ++ []
def dkwJ7_ensureCapacityInternal_0 : List UInt8 := [42, 180, 0, 15, 190, 42, 180, 0, 22, 122, 61, 27, 28, 100, 158, 0, 24, 42, 42, 180, 0, 15, 42, 27]
abbrev dktJ7_ensureCapacityInternal_0 : List UInt8 := dkwJ7_ensureCapacityInternal_0 ++ dktJ7_ensureCapacityInternal_1
theorem dksJ7_ensureCapacityInternal_0 : cJ7_ensureCapacityInternal.data.toList.drop 0 = dktJ7_ensureCapacityInternal_0 := by decide +kernel
theorem dksJ7_ensureCapacityInternal_1 : cJ7_ensureCapacityInternal.data.toList.drop 24 = dktJ7_ensureCapacityInternal_1 := dk_seg dksJ7_ensureCapacityInternal_0 24 rfl rfl
theorem dJ7_ensureCapacityInternal_0 : decode cJ7_ensureCapacityInternal 0 = .ok (.aload_n 0, 1) := dk_42 (dk_at dksJ7_ensureCapacityInternal_0 0 rfl rfl)
theorem dJ7_ensureCapacityInternal_1 : decode cJ7_ensureCapacityInternal 1 = .ok (.getfield 15, 3) := dk_180 0 15 (dk_at dksJ7_ensureCapacityInternal_0 1 rfl rfl)
theorem dJ7_ensureCapacityInternal_4 : decode cJ7_ensureCapacityInternal 4 = .ok (.arraylength, 1) := dk_190 (dk_at dksJ7_ensureCapacityInternal_0 4 rfl rfl)
theorem dJ7_ensureCapacityInternal_5 : decode cJ7_ensureCapacityInternal 5 = .ok (.aload_n 0, 1) := dk_42 (dk_at dksJ7_ensureCapacityInternal_0 5 rfl rfl)
theorem dJ7_ensureCapacityInternal_6 : decode cJ7_ensureCapacityInternal 6 = .ok (.getfield 22, 3) := dk_180 0 22 (dk_at dksJ7_ensureCapacityInternal_0 6 rfl rfl)
theorem dJ7_ensureCapacityInternal_9 : decode cJ7_ensureCapacityInternal 9 = .ok (.ishr, 1) := dk_122 (dk_at dksJ7_ensureCapacityInternal_0 9 rfl rfl)
theorem dJ7_ensureCapacityInternal_10 : decode cJ7_ensureCapacityInternal 10 = .ok (.istore_n 2, 1) := dk_61 (dk_at dksJ7_ensureCapacityInternal_0 10 rfl rfl)
theorem dJ7_ensureCapacityInternal_11 : decode cJ7_ensureCapacityInternal 11 = .ok (.iload_n 1, 1) := dk_27 (dk_at dksJ7_ensureCapacityInternal_0 11 rfl rfl)
theorem dJ7_ensureCapacityInternal_12 : decode cJ7_ensureCapacityInternal 12 = .ok (.iload_n 2, 1) := dk_28 (dk_at dksJ7_ensureCapacityInternal_0 12 rfl rfl)
theorem dJ7_ensureCapacityInternal_13 : decode cJ7_ensureCapacityInternal 13 = .ok (.isub, 1) := dk_100 (dk_at dksJ7_ensureCapacityInternal_0 13 rfl rfl)
theorem dJ7_ensureCapacityInternal_14 : decode cJ7_ensureCapacityInternal 14 = .ok (.ifCond .le 24, 3) := dk_158 0 24 (dk_at dksJ7_ensureCapacityInternal_0 14 rfl rfl)
theorem dJ7_ensureCapacityInternal_17 : decode cJ7_ensureCapacityInternal 17 = .ok (.aload_n 0, 1) := dk_42 (dk_at dksJ7_ensureCapacityInternal_0 17 rfl rfl)
theorem dJ7_ensureCapacityInternal_18 : decode cJ7_ensureCapacityInternal 18 = .ok (.aload_n 0, 1) := dk_42 (dk_at dksJ7_ensureCapacityInternal_0 18 rfl rfl)
theorem dJ7_ensureCapacityInternal_19 : decode cJ7_ensureCapacityInternal 19 = .ok (.getfield 15, 3) := dk_180 0 15 (dk_at dksJ7_ensureCapacityInternal_0 19 rfl rfl)
theorem dJ7_ensureCapacityInternal_22 : decode cJ7_ensureCapacityInternal 22 = .ok (.aload_n 0, 1) := dk_42 (dk_at dksJ7_ensureCapacityInternal_0 22 rfl rfl)
theorem dJ7_ensureCapacityInternal_23 : decode cJ7_ensureCapacityInternal 23 = .ok (.iload_n 1, 1) := dk_27 (dk_at dksJ7_ensureCapacityInternal_0 23 rfl rfl)
theorem dJ7_ensureCapacityInternal_24 : decode cJ7_ensureCapacityInternal 24 = .ok (.invokevirtual 104, 3) := dk_182 0 104 (dk_at dksJ7_ensureCapacityInternal_1 0 rfl rfl)
theorem dJ7_ensureCapacityInternal_27 : decode cJ7_ensureCapacityInternal 27 = .ok (.aload_n 0, 1) := dk_42 (dk_at dksJ7_ensureCapacityInternal_1 3 rfl rfl)
theorem dJ7_ensureCapacityInternal_28 : decode cJ7_ensureCapacityInternal 28 = .ok (.getfield 22, 3) := dk_180 0 22 (dk_at dksJ7_ensureCapacityInternal_1 4 rfl rfl)
theorem dJ7_ensureCapacityInternal_31 : decode cJ7_ensureCapacityInternal 31 = .ok (.ishl, 1) := dk_120 (dk_at dksJ7_ensureCapacityInternal_1 7 rfl rfl)
theorem dJ7_ensureCapacityInternal_32 : decode cJ7_ensureCapacityInternal 32 = .ok (.invokestatic 108, 3) := dk_184 0 108 (dk_at dksJ7_ensureCapacityInternal_1 8 rfl rfl)
theorem dJ7_ensureCapacityInternal_35 : decode cJ7_ensureCapacityInternal 35 = .ok (.putfield 15, 3) := dk_181 0 15 (dk_at dksJ7_ensureCapacityInternal_1 11 rfl rfl)
theorem dJ7_ensureCapacityInternal_38 : decode cJ7_ensureCapacityInternal 38 = .ok (.return_, 1) := dk_177 (dk_at dksJ7_ensureCapacityInternal_1 14 rfl rfl)
abbrev cJ7_isLatin1 : ByteArray := prog_6_method_68_code
def yJ7_isLatin1 : MethodName := ⟨RJ7, "isLatin1", "()Z"⟩
def dkwJ7_isLatin1_0 : List UInt8 := [178, 0, 18, 153, 0, 14, 42, 180, 0, 22, 154, 0, 7, 4, 167, 0, 4, 3, 172]
abbrev dktJ7_isLatin1_0 : List UInt8 := dkwJ7_isLatin1_0 ++ []
theorem dksJ7_isLatin1_0 : cJ7_isLatin1.data.toList.drop 0 = dktJ7_isLatin1_0 := by decide +kernel
theorem dJ7_isLatin1_0 : decode cJ7_isLatin1 0 = .ok (.getstatic 18, 3) := dk_178 0 18 (dk_at dksJ7_isLatin1_0 0 rfl rfl)
theorem dJ7_isLatin1_3 : decode cJ7_isLatin1 3 = .ok (.ifCond .eq 14, 3) := dk_153 0 14 (dk_at dksJ7_isLatin1_0 3 rfl rfl)
theorem dJ7_isLatin1_6 : decode cJ7_isLatin1 6 = .ok (.aload_n 0, 1) := dk_42 (dk_at dksJ7_isLatin1_0 6 rfl rfl)
theorem dJ7_isLatin1_7 : decode cJ7_isLatin1 7 = .ok (.getfield 22, 3) := dk_180 0 22 (dk_at dksJ7_isLatin1_0 7 rfl rfl)
theorem dJ7_isLatin1_10 : decode cJ7_isLatin1 10 = .ok (.ifCond .ne 7, 3) := dk_154 0 7 (dk_at dksJ7_isLatin1_0 10 rfl rfl)
theorem dJ7_isLatin1_13 : decode cJ7_isLatin1 13 = .ok (.iconst 1, 1) := dk_4 (dk_at dksJ7_isLatin1_0 13 rfl rfl)
theorem dJ7_isLatin1_14 : decode cJ7_isLatin1 14 = .ok (.goto 4, 3) := dk_167 0 4 (dk_at dksJ7_isLatin1_0 14 rfl rfl)
theorem dJ7_isLatin1_17 : decode cJ7_isLatin1 17 = .ok (.iconst 0, 1) := dk_3 (dk_at dksJ7_isLatin1_0 17 rfl rfl)
theorem dJ7_isLatin1_18 : decode cJ7_isLatin1 18 = .ok (.ireturn, 1) := dk_172 (dk_at dksJ7_isLatin1_0 18 rfl rfl)
abbrev cJ7_putStringAt : ByteArray := prog_6_method_73_code
def yJ7_putStringAt : MethodName := ⟨RJ7, "putStringAt", "(ILjava/lang/String;)V"⟩
def dkwJ7_putStringAt_0 : List UInt8 := [42, 44, 182, 1, 141, 44, 42, 180, 0, 15, 27, 42, 180, 0, 22, 182, 1, 143, 177]
abbrev dktJ7_putStringAt_0 : List UInt8 := dkwJ7_putStringAt_0 ++ []
theorem dksJ7_putStringAt_0 : cJ7_putStringAt.data.toList.drop 0 = dktJ7_putStringAt_0 := by decide +kernel
theorem dJ7_putStringAt_0 : decode cJ7_putStringAt 0 = .ok (.aload_n 0, 1) := dk_42 (dk_at dksJ7_putStringAt_0 0 rfl rfl)
theorem dJ7_putStringAt_1 : decode cJ7_putStringAt 1 = .ok (.aload_n 2, 1) := dk_44 (dk_at dksJ7_putStringAt_0 1 rfl rfl)
theorem dJ7_putStringAt_2 : decode cJ7_putStringAt 2 = .ok (.invokevirtual 397, 3) := dk_182 1 141 (dk_at dksJ7_putStringAt_0 2 rfl rfl)
theorem dJ7_putStringAt_5 : decode cJ7_putStringAt 5 = .ok (.aload_n 2, 1) := dk_44 (dk_at dksJ7_putStringAt_0 5 rfl rfl)
theorem dJ7_putStringAt_6 : decode cJ7_putStringAt 6 = .ok (.aload_n 0, 1) := dk_42 (dk_at dksJ7_putStringAt_0 6 rfl rfl)
theorem dJ7_putStringAt_7 : decode cJ7_putStringAt 7 = .ok (.getfield 15, 3) := dk_180 0 15 (dk_at dksJ7_putStringAt_0 7 rfl rfl)
theorem dJ7_putStringAt_10 : decode cJ7_putStringAt 10 = .ok (.iload_n 1, 1) := dk_27 (dk_at dksJ7_putStringAt_0 10 rfl rfl)
theorem dJ7_putStringAt_11 : decode cJ7_putStringAt 11 = .ok (.aload_n 0, 1) := dk_42 (dk_at dksJ7_putStringAt_0 11 rfl rfl)
theorem dJ7_putStringAt_12 : decode cJ7_putStringAt 12 = .ok (.getfield 22, 3) := dk_180 0 22 (dk_at dksJ7_putStringAt_0 12 rfl rfl)
theorem dJ7_putStringAt_15 : decode cJ7_putStringAt 15 = .ok (.invokevirtual 399, 3) := dk_182 1 143 (dk_at dksJ7_putStringAt_0 15 rfl rfl)
theorem dJ7_putStringAt_18 : decode cJ7_putStringAt 18 = .ok (.return_, 1) := dk_177 (dk_at dksJ7_putStringAt_0 18 rfl rfl)
abbrev cJ7_inflateIfNeededFor : ByteArray := prog_6_method_71_code
def yJ7_inflateIfNeededFor : MethodName := ⟨RJ7, "inflateIfNeededFor", "(Ljava/lang/String;)V"⟩
def dkwJ7_inflateIfNeededFor_0 : List UInt8 := [178, 0, 18, 153, 0, 18, 42, 180, 0, 22, 43, 182, 0, 40, 159, 0, 7, 42, 182, 0, 195, 177]
abbrev dktJ7_inflateIfNeededFor_0 : List UInt8 := dkwJ7_inflateIfNeededFor_0 ++ []
theorem dksJ7_inflateIfNeededFor_0 : cJ7_inflateIfNeededFor.data.toList.drop 0 = dktJ7_inflateIfNeededFor_0 := by decide +kernel
theorem dJ7_inflateIfNeededFor_0 : decode cJ7_inflateIfNeededFor 0 = .ok (.getstatic 18, 3) := dk_178 0 18 (dk_at dksJ7_inflateIfNeededFor_0 0 rfl rfl)
theorem dJ7_inflateIfNeededFor_3 : decode cJ7_inflateIfNeededFor 3 = .ok (.ifCond .eq 18, 3) := dk_153 0 18 (dk_at dksJ7_inflateIfNeededFor_0 3 rfl rfl)
theorem dJ7_inflateIfNeededFor_6 : decode cJ7_inflateIfNeededFor 6 = .ok (.aload_n 0, 1) := dk_42 (dk_at dksJ7_inflateIfNeededFor_0 6 rfl rfl)
theorem dJ7_inflateIfNeededFor_7 : decode cJ7_inflateIfNeededFor 7 = .ok (.getfield 22, 3) := dk_180 0 22 (dk_at dksJ7_inflateIfNeededFor_0 7 rfl rfl)
theorem dJ7_inflateIfNeededFor_10 : decode cJ7_inflateIfNeededFor 10 = .ok (.aload_n 1, 1) := dk_43 (dk_at dksJ7_inflateIfNeededFor_0 10 rfl rfl)
theorem dJ7_inflateIfNeededFor_11 : decode cJ7_inflateIfNeededFor 11 = .ok (.invokevirtual 40, 3) := dk_182 0 40 (dk_at dksJ7_inflateIfNeededFor_0 11 rfl rfl)
theorem dJ7_inflateIfNeededFor_14 : decode cJ7_inflateIfNeededFor 14 = .ok (.if_icmp .eq 7, 3) := dk_159 0 7 (dk_at dksJ7_inflateIfNeededFor_0 14 rfl rfl)
theorem dJ7_inflateIfNeededFor_17 : decode cJ7_inflateIfNeededFor 17 = .ok (.aload_n 0, 1) := dk_42 (dk_at dksJ7_inflateIfNeededFor_0 17 rfl rfl)
theorem dJ7_inflateIfNeededFor_18 : decode cJ7_inflateIfNeededFor 18 = .ok (.invokevirtual 195, 3) := dk_182 0 195 (dk_at dksJ7_inflateIfNeededFor_0 18 rfl rfl)
theorem dJ7_inflateIfNeededFor_21 : decode cJ7_inflateIfNeededFor 21 = .ok (.return_, 1) := dk_177 (dk_at dksJ7_inflateIfNeededFor_0 21 rfl rfl)
abbrev cJ7_append_2 : ByteArray := prog_6_method_31_code
def yJ7_append_2 : MethodName := ⟨RJ7, "append", "(C)Ljava/lang/AbstractStringBuilder;"⟩
def dkwJ7_append_2_3 : List UInt8 := [181, 0, 79, 27, 184, 0, 197, 42, 176]
abbrev dktJ7_append_2_3 : List UInt8 := dkwJ7_append_2_3 ++ []
def dkwJ7_append_2_2 : List UInt8 := [182, 0, 83, 153, 0, 7, 42, 182, 0, 195, 42, 180, 0, 15, 42, 89, 180, 0, 79, 90, 4, 96]
abbrev dktJ7_append_2_2 : List UInt8 := dkwJ7_append_2_2 ++ dktJ7_append_2_3
def dkwJ7_append_2_1 : List UInt8 := [42, 180, 0, 15, 42, 89, 180, 0, 79, 90, 4, 96, 181, 0, 79, 27, 145, 84, 167, 0, 33, 42]
abbrev dktJ7_append_2_1 : List UInt8 := dkwJ7_append_2_1 ++ dktJ7_append_2_2
def dkwJ7_append_2_0 : List UInt8 := [42, 42, 180, 0, 79, 4, 96, 182, 0, 100, 42, 182, 0, 83, 153, 0, 31, 27, 184, 0, 191, 153, 0, 24]
abbrev dktJ7_append_2_0 : List UInt8 := dkwJ7_append_2_0 ++ dktJ7_append_2_1
theorem dksJ7_append_2_0 : cJ7_append_2.data.toList.drop 0 = dktJ7_append_2_0 := by decide +kernel
theorem dksJ7_append_2_1 : cJ7_append_2.data.toList.drop 24 = dktJ7_append_2_1 := dk_seg dksJ7_append_2_0 24 rfl rfl
theorem dksJ7_append_2_2 : cJ7_append_2.data.toList.drop 46 = dktJ7_append_2_2 := dk_seg dksJ7_append_2_1 22 rfl rfl
theorem dksJ7_append_2_3 : cJ7_append_2.data.toList.drop 68 = dktJ7_append_2_3 := dk_seg dksJ7_append_2_2 22 rfl rfl
theorem dJ7_append_2_0 : decode cJ7_append_2 0 = .ok (.aload_n 0, 1) := dk_42 (dk_at dksJ7_append_2_0 0 rfl rfl)
theorem dJ7_append_2_1 : decode cJ7_append_2 1 = .ok (.aload_n 0, 1) := dk_42 (dk_at dksJ7_append_2_0 1 rfl rfl)
theorem dJ7_append_2_2 : decode cJ7_append_2 2 = .ok (.getfield 79, 3) := dk_180 0 79 (dk_at dksJ7_append_2_0 2 rfl rfl)
theorem dJ7_append_2_5 : decode cJ7_append_2 5 = .ok (.iconst 1, 1) := dk_4 (dk_at dksJ7_append_2_0 5 rfl rfl)
theorem dJ7_append_2_6 : decode cJ7_append_2 6 = .ok (.iadd, 1) := dk_96 (dk_at dksJ7_append_2_0 6 rfl rfl)
theorem dJ7_append_2_7 : decode cJ7_append_2 7 = .ok (.invokevirtual 100, 3) := dk_182 0 100 (dk_at dksJ7_append_2_0 7 rfl rfl)
theorem dJ7_append_2_10 : decode cJ7_append_2 10 = .ok (.aload_n 0, 1) := dk_42 (dk_at dksJ7_append_2_0 10 rfl rfl)
theorem dJ7_append_2_11 : decode cJ7_append_2 11 = .ok (.invokevirtual 83, 3) := dk_182 0 83 (dk_at dksJ7_append_2_0 11 rfl rfl)
theorem dJ7_append_2_14 : decode cJ7_append_2 14 = .ok (.ifCond .eq 31, 3) := dk_153 0 31 (dk_at dksJ7_append_2_0 14 rfl rfl)
theorem dJ7_append_2_17 : decode cJ7_append_2 17 = .ok (.iload_n 1, 1) := dk_27 (dk_at dksJ7_append_2_0 17 rfl rfl)
theorem dJ7_append_2_18 : decode cJ7_append_2 18 = .ok (.invokestatic 191, 3) := dk_184 0 191 (dk_at dksJ7_append_2_0 18 rfl rfl)
theorem dJ7_append_2_21 : decode cJ7_append_2 21 = .ok (.ifCond .eq 24, 3) := dk_153 0 24 (dk_at dksJ7_append_2_0 21 rfl rfl)
theorem dJ7_append_2_24 : decode cJ7_append_2 24 = .ok (.aload_n 0, 1) := dk_42 (dk_at dksJ7_append_2_1 0 rfl rfl)
theorem dJ7_append_2_25 : decode cJ7_append_2 25 = .ok (.getfield 15, 3) := dk_180 0 15 (dk_at dksJ7_append_2_1 1 rfl rfl)
theorem dJ7_append_2_28 : decode cJ7_append_2 28 = .ok (.aload_n 0, 1) := dk_42 (dk_at dksJ7_append_2_1 4 rfl rfl)
theorem dJ7_append_2_29 : decode cJ7_append_2 29 = .ok (.dup, 1) := dk_89 (dk_at dksJ7_append_2_1 5 rfl rfl)
theorem dJ7_append_2_30 : decode cJ7_append_2 30 = .ok (.getfield 79, 3) := dk_180 0 79 (dk_at dksJ7_append_2_1 6 rfl rfl)
theorem dJ7_append_2_33 : decode cJ7_append_2 33 = .ok (.dup_x1, 1) := dk_90 (dk_at dksJ7_append_2_1 9 rfl rfl)
theorem dJ7_append_2_34 : decode cJ7_append_2 34 = .ok (.iconst 1, 1) := dk_4 (dk_at dksJ7_append_2_1 10 rfl rfl)
theorem dJ7_append_2_35 : decode cJ7_append_2 35 = .ok (.iadd, 1) := dk_96 (dk_at dksJ7_append_2_1 11 rfl rfl)
theorem dJ7_append_2_36 : decode cJ7_append_2 36 = .ok (.putfield 79, 3) := dk_181 0 79 (dk_at dksJ7_append_2_1 12 rfl rfl)
theorem dJ7_append_2_39 : decode cJ7_append_2 39 = .ok (.iload_n 1, 1) := dk_27 (dk_at dksJ7_append_2_1 15 rfl rfl)
theorem dJ7_append_2_40 : decode cJ7_append_2 40 = .ok (.i2b, 1) := dk_145 (dk_at dksJ7_append_2_1 16 rfl rfl)
theorem dJ7_append_2_41 : decode cJ7_append_2 41 = .ok (.bastore, 1) := dk_84 (dk_at dksJ7_append_2_1 17 rfl rfl)
theorem dJ7_append_2_42 : decode cJ7_append_2 42 = .ok (.goto 33, 3) := dk_167 0 33 (dk_at dksJ7_append_2_1 18 rfl rfl)
theorem dJ7_append_2_45 : decode cJ7_append_2 45 = .ok (.aload_n 0, 1) := dk_42 (dk_at dksJ7_append_2_1 21 rfl rfl)
theorem dJ7_append_2_46 : decode cJ7_append_2 46 = .ok (.invokevirtual 83, 3) := dk_182 0 83 (dk_at dksJ7_append_2_2 0 rfl rfl)
theorem dJ7_append_2_49 : decode cJ7_append_2 49 = .ok (.ifCond .eq 7, 3) := dk_153 0 7 (dk_at dksJ7_append_2_2 3 rfl rfl)
theorem dJ7_append_2_52 : decode cJ7_append_2 52 = .ok (.aload_n 0, 1) := dk_42 (dk_at dksJ7_append_2_2 6 rfl rfl)
theorem dJ7_append_2_53 : decode cJ7_append_2 53 = .ok (.invokevirtual 195, 3) := dk_182 0 195 (dk_at dksJ7_append_2_2 7 rfl rfl)
theorem dJ7_append_2_56 : decode cJ7_append_2 56 = .ok (.aload_n 0, 1) := dk_42 (dk_at dksJ7_append_2_2 10 rfl rfl)
theorem dJ7_append_2_57 : decode cJ7_append_2 57 = .ok (.getfield 15, 3) := dk_180 0 15 (dk_at dksJ7_append_2_2 11 rfl rfl)
theorem dJ7_append_2_60 : decode cJ7_append_2 60 = .ok (.aload_n 0, 1) := dk_42 (dk_at dksJ7_append_2_2 14 rfl rfl)
theorem dJ7_append_2_61 : decode cJ7_append_2 61 = .ok (.dup, 1) := dk_89 (dk_at dksJ7_append_2_2 15 rfl rfl)
theorem dJ7_append_2_62 : decode cJ7_append_2 62 = .ok (.getfield 79, 3) := dk_180 0 79 (dk_at dksJ7_append_2_2 16 rfl rfl)
theorem dJ7_append_2_65 : decode cJ7_append_2 65 = .ok (.dup_x1, 1) := dk_90 (dk_at dksJ7_append_2_2 19 rfl rfl)
theorem dJ7_append_2_66 : decode cJ7_append_2 66 = .ok (.iconst 1, 1) := dk_4 (dk_at dksJ7_append_2_2 20 rfl rfl)
theorem dJ7_append_2_67 : decode cJ7_append_2 67 = .ok (.iadd, 1) := dk_96 (dk_at dksJ7_append_2_2 21 rfl rfl)
theorem dJ7_append_2_68 : decode cJ7_append_2 68 = .ok (.putfield 79, 3) := dk_181 0 79 (dk_at dksJ7_append_2_3 0 rfl rfl)
theorem dJ7_append_2_71 : decode cJ7_append_2 71 = .ok (.iload_n 1, 1) := dk_27 (dk_at dksJ7_append_2_3 3 rfl rfl)
theorem dJ7_append_2_72 : decode cJ7_append_2 72 = .ok (.invokestatic 197, 3) := dk_184 0 197 (dk_at dksJ7_append_2_3 4 rfl rfl)
theorem dJ7_append_2_75 : decode cJ7_append_2 75 = .ok (.aload_n 0, 1) := dk_42 (dk_at dksJ7_append_2_3 7 rfl rfl)
theorem dJ7_append_2_76 : decode cJ7_append_2 76 = .ok (.areturn, 1) := dk_176 (dk_at dksJ7_append_2_3 8 rfl rfl)
abbrev cJ7_getValue : ByteArray := prog_6_method_64_code
def yJ7_getValue : MethodName := ⟨RJ7, "getValue", "()[B"⟩
theorem dJ7_getValue_0 : decode cJ7_getValue 0 = .ok (.aload_n 0, 1) := by decide +kernel
theorem dJ7_getValue_1 : decode cJ7_getValue 1 = .ok (.getfield 15, 3) := by decide +kernel
theorem dJ7_getValue_4 : decode cJ7_getValue 4 = .ok (.areturn, 1) := by decide +kernel
abbrev cJ7_length : ByteArray := prog_6_method_6_code
def yJ7_length : MethodName := ⟨RJ7, "length", "()I"⟩
theorem dJ7_length_0 : decode cJ7_length 0 = .ok (.aload_n 0, 1) := by decide +kernel
theorem dJ7_length_1 : decode cJ7_length 1 = .ok (.getfield 79, 3) := by decide +kernel
theorem dJ7_length_4 : decode cJ7_length 4 = .ok (.ireturn, 1) := by decide +kernel
abbrev cJ7_init_2 : ByteArray := prog_6_method_2_code
def yJ7_init_2 : MethodName := ⟨RJ7, "<init>", "(I)V"⟩
def dkwJ7_init_2_1 : List UInt8 := [167, 0, 16, 42, 27, 184, 0, 26, 181, 0, 15, 42, 4, 181, 0, 22, 177]
abbrev dktJ7_init_2_1 : List UInt8 := dkwJ7_init_2_1 ++ []
def dkwJ7_init_2_0 : List UInt8 := [42, 183, 0, 3, 178, 0, 18, 153, 0, 18, 42, 27, 188, 8, 181, 0, 15, 42, 3, 181, 0, 22]
abbrev dktJ7_init_2_0 : List UInt8 := dkwJ7_init_2_0 ++ dktJ7_init_2_1
theorem dksJ7_init_2_0 : cJ7_init_2.data.toList.drop 0 = dktJ7_init_2_0 := by decide +kernel
theorem dksJ7_init_2_1 : cJ7_init_2.data.toList.drop 22 = dktJ7_init_2_1 := dk_seg dksJ7_init_2_0 22 rfl rfl
theorem dJ7_init_2_0 : decode cJ7_init_2 0 = .ok (.aload_n 0, 1) := dk_42 (dk_at dksJ7_init_2_0 0 rfl rfl)
theorem dJ7_init_2_1 : decode cJ7_init_2 1 = .ok (.invokespecial 3, 3) := dk_183 0 3 (dk_at dksJ7_init_2_0 1 rfl rfl)
theorem dJ7_init_2_4 : decode cJ7_init_2 4 = .ok (.getstatic 18, 3) := dk_178 0 18 (dk_at dksJ7_init_2_0 4 rfl rfl)
theorem dJ7_init_2_7 : decode cJ7_init_2 7 = .ok (.ifCond .eq 18, 3) := dk_153 0 18 (dk_at dksJ7_init_2_0 7 rfl rfl)
theorem dJ7_init_2_10 : decode cJ7_init_2 10 = .ok (.aload_n 0, 1) := dk_42 (dk_at dksJ7_init_2_0 10 rfl rfl)
theorem dJ7_init_2_11 : decode cJ7_init_2 11 = .ok (.iload_n 1, 1) := dk_27 (dk_at dksJ7_init_2_0 11 rfl rfl)
theorem dJ7_init_2_12 : decode cJ7_init_2 12 = .ok (.newarray .byte, 2) := dk_188_8 (dk_at dksJ7_init_2_0 12 rfl rfl)
theorem dJ7_init_2_14 : decode cJ7_init_2 14 = .ok (.putfield 15, 3) := dk_181 0 15 (dk_at dksJ7_init_2_0 14 rfl rfl)
theorem dJ7_init_2_17 : decode cJ7_init_2 17 = .ok (.aload_n 0, 1) := dk_42 (dk_at dksJ7_init_2_0 17 rfl rfl)
theorem dJ7_init_2_18 : decode cJ7_init_2 18 = .ok (.iconst 0, 1) := dk_3 (dk_at dksJ7_init_2_0 18 rfl rfl)
theorem dJ7_init_2_19 : decode cJ7_init_2 19 = .ok (.putfield 22, 3) := dk_181 0 22 (dk_at dksJ7_init_2_0 19 rfl rfl)
theorem dJ7_init_2_22 : decode cJ7_init_2 22 = .ok (.goto 16, 3) := dk_167 0 16 (dk_at dksJ7_init_2_1 0 rfl rfl)
theorem dJ7_init_2_25 : decode cJ7_init_2 25 = .ok (.aload_n 0, 1) := dk_42 (dk_at dksJ7_init_2_1 3 rfl rfl)
theorem dJ7_init_2_26 : decode cJ7_init_2 26 = .ok (.iload_n 1, 1) := dk_27 (dk_at dksJ7_init_2_1 4 rfl rfl)
theorem dJ7_init_2_27 : decode cJ7_init_2 27 = .ok (.invokestatic 26, 3) := dk_184 0 26 (dk_at dksJ7_init_2_1 5 rfl rfl)
theorem dJ7_init_2_30 : decode cJ7_init_2 30 = .ok (.putfield 15, 3) := dk_181 0 15 (dk_at dksJ7_init_2_1 8 rfl rfl)
theorem dJ7_init_2_33 : decode cJ7_init_2 33 = .ok (.aload_n 0, 1) := dk_42 (dk_at dksJ7_init_2_1 11 rfl rfl)
theorem dJ7_init_2_34 : decode cJ7_init_2 34 = .ok (.iconst 1, 1) := dk_4 (dk_at dksJ7_init_2_1 12 rfl rfl)
theorem dJ7_init_2_35 : decode cJ7_init_2 35 = .ok (.putfield 22, 3) := dk_181 0 22 (dk_at dksJ7_init_2_1 13 rfl rfl)
theorem dJ7_init_2_38 : decode cJ7_init_2 38 = .ok (.return_, 1) := dk_177 (dk_at dksJ7_init_2_1 16 rfl rfl)
/-! java/lang/StringBuilder -/
set_option maxRecDepth 100000
def RJ8 : String := "java/lang/StringBuilder"
def TJ8 : u_T := fun k => match k with
  | 0 => ("java/lang/AbstractStringBuilder", "value", "[B", false)
  | 1 => ("java/lang/AbstractStringBuilder", "coder", "B", false)
  | 2 => ("java/lang/AbstractStringBuilder", "maybeLatin1", "Z", false)
  | _ => ("java/lang/AbstractStringBuilder", "count", "I", false)
def tyJ8 : Nat → FieldType := fun k => match k with
  | 0 => .array .byte
  | 1 => .byte
  | 2 => .boolean
  | _ => .int
abbrev wsJ80 : List Cond := u_ws RJ8 TJ8 4
theorem nmJ8 : ∀ a, a < 4 → ∀ b, b < 4 → a ≠ b → (TJ8 a).2.1 ≠ (TJ8 b).2.1 := by decide +kernel
theorem tyJ8_ok : ∀ k, k < 4 → parseFieldDescriptor (TJ8 k).2.2.1 = some (tyJ8 k) := by decide +kernel
abbrev cJ8_init : ByteArray := prog_12_method_3_code
def yJ8_init : MethodName := ⟨RJ8, "<init>", "(Ljava/lang/String;)V"⟩
def dkwJ8_init_0 : List UInt8 := [42, 43, 183, 0, 7, 177]
abbrev dktJ8_init_0 : List UInt8 := dkwJ8_init_0 ++ []
theorem dksJ8_init_0 : cJ8_init.data.toList.drop 0 = dktJ8_init_0 := by decide +kernel
theorem dJ8_init_0 : decode cJ8_init 0 = .ok (.aload_n 0, 1) := dk_42 (dk_at dksJ8_init_0 0 rfl rfl)
theorem dJ8_init_1 : decode cJ8_init 1 = .ok (.aload_n 1, 1) := dk_43 (dk_at dksJ8_init_0 1 rfl rfl)
theorem dJ8_init_2 : decode cJ8_init 2 = .ok (.invokespecial 7, 3) := dk_183 0 7 (dk_at dksJ8_init_0 2 rfl rfl)
theorem dJ8_init_5 : decode cJ8_init 5 = .ok (.return_, 1) := dk_177 (dk_at dksJ8_init_0 5 rfl rfl)
abbrev cJ8_append : ByteArray := prog_12_method_80_code
def yJ8_append : MethodName := ⟨RJ8, "append", "(Ljava/lang/String;)Ljava/lang/AbstractStringBuilder;"⟩
def dkwJ8_append_0 : List UInt8 := [42, 43, 182, 0, 23, 176]
abbrev dktJ8_append_0 : List UInt8 := dkwJ8_append_0 ++ []
theorem dksJ8_append_0 : cJ8_append.data.toList.drop 0 = dktJ8_append_0 := by decide +kernel
theorem dJ8_append_0 : decode cJ8_append 0 = .ok (.aload_n 0, 1) := dk_42 (dk_at dksJ8_append_0 0 rfl rfl)
theorem dJ8_append_1 : decode cJ8_append 1 = .ok (.aload_n 1, 1) := dk_43 (dk_at dksJ8_append_0 1 rfl rfl)
theorem dJ8_append_2 : decode cJ8_append 2 = .ok (.invokevirtual 23, 3) := dk_182 0 23 (dk_at dksJ8_append_0 2 rfl rfl)
theorem dJ8_append_5 : decode cJ8_append 5 = .ok (.areturn, 1) := dk_176 (dk_at dksJ8_append_0 5 rfl rfl)
abbrev cJ8_append_2 : ByteArray := prog_12_method_7_code
def yJ8_append_2 : MethodName := ⟨RJ8, "append", "(Ljava/lang/String;)Ljava/lang/StringBuilder;"⟩
def dkwJ8_append_2_0 : List UInt8 := [42, 43, 183, 0, 29, 87, 42, 176]
abbrev dktJ8_append_2_0 : List UInt8 := dkwJ8_append_2_0 ++ []
theorem dksJ8_append_2_0 : cJ8_append_2.data.toList.drop 0 = dktJ8_append_2_0 := by decide +kernel
theorem dJ8_append_2_0 : decode cJ8_append_2 0 = .ok (.aload_n 0, 1) := dk_42 (dk_at dksJ8_append_2_0 0 rfl rfl)
theorem dJ8_append_2_1 : decode cJ8_append_2 1 = .ok (.aload_n 1, 1) := dk_43 (dk_at dksJ8_append_2_0 1 rfl rfl)
theorem dJ8_append_2_2 : decode cJ8_append_2 2 = .ok (.invokespecial 29, 3) := dk_183 0 29 (dk_at dksJ8_append_2_0 2 rfl rfl)
theorem dJ8_append_2_5 : decode cJ8_append_2 5 = .ok (.pop, 1) := dk_87 (dk_at dksJ8_append_2_0 5 rfl rfl)
theorem dJ8_append_2_6 : decode cJ8_append_2 6 = .ok (.aload_n 0, 1) := dk_42 (dk_at dksJ8_append_2_0 6 rfl rfl)
theorem dJ8_append_2_7 : decode cJ8_append_2 7 = .ok (.areturn, 1) := dk_176 (dk_at dksJ8_append_2_0 7 rfl rfl)
abbrev cJ8_append_3 : ByteArray := prog_12_method_14_code
def yJ8_append_3 : MethodName := ⟨RJ8, "append", "(C)Ljava/lang/StringBuilder;"⟩
def dkwJ8_append_3_0 : List UInt8 := [42, 27, 183, 0, 50, 87, 42, 176]
abbrev dktJ8_append_3_0 : List UInt8 := dkwJ8_append_3_0 ++ []
theorem dksJ8_append_3_0 : cJ8_append_3.data.toList.drop 0 = dktJ8_append_3_0 := by decide +kernel
theorem dJ8_append_3_0 : decode cJ8_append_3 0 = .ok (.aload_n 0, 1) := dk_42 (dk_at dksJ8_append_3_0 0 rfl rfl)
theorem dJ8_append_3_1 : decode cJ8_append_3 1 = .ok (.iload_n 1, 1) := dk_27 (dk_at dksJ8_append_3_0 1 rfl rfl)
theorem dJ8_append_3_2 : decode cJ8_append_3 2 = .ok (.invokespecial 50, 3) := dk_183 0 50 (dk_at dksJ8_append_3_0 2 rfl rfl)
theorem dJ8_append_3_5 : decode cJ8_append_3 5 = .ok (.pop, 1) := dk_87 (dk_at dksJ8_append_3_0 5 rfl rfl)
theorem dJ8_append_3_6 : decode cJ8_append_3 6 = .ok (.aload_n 0, 1) := dk_42 (dk_at dksJ8_append_3_0 6 rfl rfl)
theorem dJ8_append_3_7 : decode cJ8_append_3 7 = .ok (.areturn, 1) := dk_176 (dk_at dksJ8_append_3_0 7 rfl rfl)
abbrev cJ8_toString : ByteArray := prog_12_method_42_code
def yJ8_toString : MethodName := ⟨RJ8, "toString", "()Ljava/lang/String;"⟩
def dkwJ8_toString_0 : List UInt8 := [187, 0, 18, 89, 42, 183, 0, 137, 176]
abbrev dktJ8_toString_0 : List UInt8 := dkwJ8_toString_0 ++ []
theorem dksJ8_toString_0 : cJ8_toString.data.toList.drop 0 = dktJ8_toString_0 := by decide +kernel
theorem dJ8_toString_0 : decode cJ8_toString 0 = .ok (.new 18, 3) := dk_187 0 18 (dk_at dksJ8_toString_0 0 rfl rfl)
theorem dJ8_toString_3 : decode cJ8_toString 3 = .ok (.dup, 1) := dk_89 (dk_at dksJ8_toString_0 3 rfl rfl)
theorem dJ8_toString_4 : decode cJ8_toString 4 = .ok (.aload_n 0, 1) := dk_42 (dk_at dksJ8_toString_0 4 rfl rfl)
theorem dJ8_toString_5 : decode cJ8_toString 5 = .ok (.invokespecial 137, 3) := dk_183 0 137 (dk_at dksJ8_toString_0 5 rfl rfl)
theorem dJ8_toString_8 : decode cJ8_toString 8 = .ok (.areturn, 1) := dk_176 (dk_at dksJ8_toString_0 8 rfl rfl)
abbrev cJ8_length : ByteArray := prog_12_method_93_code
def yJ8_length : MethodName := ⟨RJ8, "length", "()I"⟩
theorem dJ8_length_0 : decode cJ8_length 0 = .ok (.aload_n 0, 1) := by decide +kernel
theorem dJ8_length_1 : decode cJ8_length 1 = .ok (.invokespecial 343, 3) := by decide +kernel
theorem dJ8_length_4 : decode cJ8_length 4 = .ok (.ireturn, 1) := by decide +kernel
abbrev cJ8_init_2 : ByteArray := prog_12_method_2_code
def yJ8_init_2 : MethodName := ⟨RJ8, "<init>", "(I)V"⟩
def dkwJ8_init_2_0 : List UInt8 := [42, 27, 183, 0, 1, 177]
abbrev dktJ8_init_2_0 : List UInt8 := dkwJ8_init_2_0 ++ []
theorem dksJ8_init_2_0 : cJ8_init_2.data.toList.drop 0 = dktJ8_init_2_0 := by decide +kernel
theorem dJ8_init_2_0 : decode cJ8_init_2 0 = .ok (.aload_n 0, 1) := dk_42 (dk_at dksJ8_init_2_0 0 rfl rfl)
theorem dJ8_init_2_1 : decode cJ8_init_2 1 = .ok (.iload_n 1, 1) := dk_27 (dk_at dksJ8_init_2_0 1 rfl rfl)
theorem dJ8_init_2_2 : decode cJ8_init_2 2 = .ok (.invokespecial 1, 3) := dk_183 0 1 (dk_at dksJ8_init_2_0 2 rfl rfl)
theorem dJ8_init_2_5 : decode cJ8_init_2 5 = .ok (.return_, 1) := dk_177 (dk_at dksJ8_init_2_0 5 rfl rfl)
/-! the law's own entry -/
set_option maxRecDepth 100000
abbrev cL_law : ByteArray := code
def dkwL_law_24 : List UInt8 := [153, 0, 7, 4, 167, 0, 4, 3, 172]
abbrev dktL_law_24 : List UInt8 := dkwL_law_24 ++ []
def dkwL_law_23 : List UInt8 := [43, 44, 44, 4, 184, 0, 69, 42, 6, 184, 0, 41, 184, 0, 45, 153, 0, 14, 43, 182, 0, 29]
abbrev dktL_law_23 : List UInt8 := dkwL_law_23 ++ dktL_law_24
def dkwL_law_22 : List UInt8 := [182, 0, 64, 43, 44, 44, 42, 5, 184, 0, 41, 184, 0, 45, 154, 0, 5, 3, 172, 43, 4, 182, 0, 73]
abbrev dktL_law_22 : List UInt8 := dkwL_law_22 ++ dktL_law_23
def dkwL_law_21 : List UInt8 := [21, 7, 184, 0, 45, 154, 0, 5, 3, 172, 132, 4, 3, 167, 254, 33, 43, 3, 42, 4, 184, 0, 41]
abbrev dktL_law_21 : List UInt8 := dkwL_law_21 ++ dktL_law_22
def dkwL_law_20 : List UInt8 := [154, 0, 21, 45, 21, 6, 184, 0, 57, 184, 0, 79, 21, 7, 184, 0, 57, 184, 0, 79, 78, 43, 44, 45]
abbrev dktL_law_20 : List UInt8 := dkwL_law_20 ++ dktL_law_21
def dkwL_law_19 : List UInt8 := [21, 6, 184, 0, 57, 184, 0, 79, 21, 7, 184, 0, 57, 184, 0, 79, 77, 21, 10, 153, 0, 26, 21, 9]
abbrev dktL_law_19 : List UInt8 := dkwL_law_19 ++ dktL_law_20
def dkwL_law_18 : List UInt8 := [21, 7, 182, 0, 75, 21, 10, 159, 0, 5, 3, 172, 21, 10, 153, 0, 26, 21, 9, 153, 0, 21, 44]
abbrev dktL_law_18 : List UInt8 := dkwL_law_18 ++ dktL_law_19
def dkwL_law_17 : List UInt8 := [190, 167, 0, 5, 45, 190, 16, 60, 163, 0, 7, 4, 167, 0, 4, 3, 54, 10, 43, 21, 8, 21, 6]
abbrev dktL_law_17 : List UInt8 := dkwL_law_17 ++ dktL_law_18
def dkwL_law_16 : List UInt8 := [21, 7, 184, 0, 57, 184, 0, 79, 78, 132, 10, 1, 167, 255, 149, 167, 0, 100, 21, 9, 153, 0, 8, 44]
abbrev dktL_law_16 : List UInt8 := dkwL_law_16 ++ dktL_law_17
def dkwL_law_15 : List UInt8 := [184, 0, 79, 77, 21, 11, 153, 0, 27, 21, 10, 4, 160, 0, 21, 45, 21, 6, 184, 0, 57, 184, 0, 79]
abbrev dktL_law_15 : List UInt8 := dkwL_law_15 ++ dktL_law_16
def dkwL_law_14 : List UInt8 := [21, 11, 153, 0, 26, 21, 10, 154, 0, 21, 44, 21, 6, 184, 0, 57, 184, 0, 79, 21, 7, 184, 0, 57]
abbrev dktL_law_14 : List UInt8 := dkwL_law_14 ++ dktL_law_15
def dkwL_law_13 : List UInt8 := [167, 0, 4, 3, 54, 11, 43, 21, 10, 21, 6, 21, 7, 182, 0, 75, 21, 11, 159, 0, 5, 3, 172]
abbrev dktL_law_13 : List UInt8 := dkwL_law_13 ++ dktL_law_14
def dkwL_law_12 : List UInt8 := [21, 10, 5, 162, 0, 107, 21, 10, 154, 0, 8, 44, 190, 167, 0, 5, 45, 190, 16, 60, 163, 0, 7, 4]
abbrev dktL_law_12 : List UInt8 := dkwL_law_12 ++ dktL_law_13
def dkwL_law_11 : List UInt8 := [153, 0, 12, 44, 4, 184, 0, 69, 77, 167, 0, 225, 45, 4, 184, 0, 69, 78, 167, 0, 216, 3, 54, 10]
abbrev dktL_law_11 : List UInt8 := dkwL_law_11 ++ dktL_law_12
def dkwL_law_10 : List UInt8 := [184, 0, 69, 77, 167, 0, 254, 45, 3, 184, 0, 69, 78, 167, 0, 245, 43, 21, 8, 182, 0, 73, 21, 9]
abbrev dktL_law_10 : List UInt8 := dkwL_law_10 ++ dktL_law_11
def dkwL_law_9 : List UInt8 := [184, 0, 57, 3, 184, 0, 60, 78, 167, 1, 18, 43, 21, 8, 182, 0, 67, 21, 9, 153, 0, 12, 44, 3]
abbrev dktL_law_9 : List UInt8 := dkwL_law_9 ++ dktL_law_10
def dkwL_law_8 : List UInt8 := [184, 0, 60, 78, 167, 1, 45, 43, 21, 6, 21, 7, 182, 0, 64, 44, 21, 6, 16, 63, 126, 21, 7]
abbrev dktL_law_8 : List UInt8 := dkwL_law_8 ++ dktL_law_9
def dkwL_law_7 : List UInt8 := [167, 1, 72, 43, 21, 6, 21, 7, 182, 0, 53, 44, 21, 6, 16, 63, 126, 21, 7, 184, 0, 57, 4]
abbrev dktL_law_7 : List UInt8 := dkwL_law_7 ++ dktL_law_8
def dkwL_law_6 : List UInt8 := [43, 21, 8, 182, 0, 49, 21, 9, 153, 0, 10, 3, 188, 10, 77, 167, 1, 79, 3, 188, 10, 78]
abbrev dktL_law_6 : List UInt8 := dkwL_law_6 ++ dktL_law_7
def dkwL_law_5 : List UInt8 := [170, 0, 0, 0, 0, 1, 44, 0, 0, 0, 0, 0, 0, 0, 7, 0, 0, 0, 47, 0, 0, 0, 72, 0, 0, 0, 72, 0, 0, 0, 99, 0, 0, 0, 99, 0, 0, 0, 126, 0, 0, 0, 155, 0, 0, 0, 184]
abbrev dktL_law_5 : List UInt8 := dkwL_law_5 ++ dktL_law_6
def dkwL_law_4 : List UInt8 := [21, 5, 184, 0, 10, 16, 16, 112]
abbrev dktL_law_4 : List UInt8 := dkwL_law_4 ++ dktL_law_5
def dkwL_law_3 : List UInt8 := [54, 7, 21, 5, 16, 8, 122, 54, 8, 21, 8, 4, 126, 154, 0, 7, 4, 167, 0, 4, 3, 54, 9]
abbrev dktL_law_3 : List UInt8 := dkwL_law_3 ++ dktL_law_4
def dkwL_law_2 : List UInt8 := [184, 0, 41, 54, 5, 42, 21, 4, 4, 96, 184, 0, 41, 54, 6, 42, 21, 4, 5, 96, 184, 0, 41]
abbrev dktL_law_2 : List UInt8 := dkwL_law_2 ++ dktL_law_3
def dkwL_law_1 : List UInt8 := [184, 0, 45, 154, 0, 5, 3, 172, 3, 54, 4, 21, 4, 5, 96, 16, 96, 162, 1, 220, 42, 21, 4]
abbrev dktL_law_1 : List UInt8 := dkwL_law_1 ++ dktL_law_2
def dkwL_law_0 : List UInt8 := [187, 0, 21, 89, 183, 0, 40, 76, 3, 188, 10, 77, 3, 188, 10, 78, 43, 44, 45, 42, 3, 184, 0, 41]
abbrev dktL_law_0 : List UInt8 := dkwL_law_0 ++ dktL_law_1
theorem dksL_law_0 : cL_law.data.toList.drop 0 = dktL_law_0 := by decide +kernel
theorem dksL_law_1 : cL_law.data.toList.drop 24 = dktL_law_1 := dk_seg dksL_law_0 24 rfl rfl
theorem dksL_law_2 : cL_law.data.toList.drop 47 = dktL_law_2 := dk_seg dksL_law_1 23 rfl rfl
theorem dksL_law_3 : cL_law.data.toList.drop 70 = dktL_law_3 := dk_seg dksL_law_2 23 rfl rfl
theorem dksL_law_4 : cL_law.data.toList.drop 93 = dktL_law_4 := dk_seg dksL_law_3 23 rfl rfl
theorem dksL_law_5 : cL_law.data.toList.drop 101 = dktL_law_5 := dk_seg dksL_law_4 8 rfl rfl
theorem dksL_law_6 : cL_law.data.toList.drop 148 = dktL_law_6 := dk_seg dksL_law_5 47 rfl rfl
theorem dksL_law_7 : cL_law.data.toList.drop 170 = dktL_law_7 := dk_seg dksL_law_6 22 rfl rfl
theorem dksL_law_8 : cL_law.data.toList.drop 193 = dktL_law_8 := dk_seg dksL_law_7 23 rfl rfl
theorem dksL_law_9 : cL_law.data.toList.drop 216 = dktL_law_9 := dk_seg dksL_law_8 23 rfl rfl
theorem dksL_law_10 : cL_law.data.toList.drop 240 = dktL_law_10 := dk_seg dksL_law_9 24 rfl rfl
theorem dksL_law_11 : cL_law.data.toList.drop 264 = dktL_law_11 := dk_seg dksL_law_10 24 rfl rfl
theorem dksL_law_12 : cL_law.data.toList.drop 288 = dktL_law_12 := dk_seg dksL_law_11 24 rfl rfl
theorem dksL_law_13 : cL_law.data.toList.drop 312 = dktL_law_13 := dk_seg dksL_law_12 24 rfl rfl
theorem dksL_law_14 : cL_law.data.toList.drop 335 = dktL_law_14 := dk_seg dksL_law_13 23 rfl rfl
theorem dksL_law_15 : cL_law.data.toList.drop 359 = dktL_law_15 := dk_seg dksL_law_14 24 rfl rfl
theorem dksL_law_16 : cL_law.data.toList.drop 383 = dktL_law_16 := dk_seg dksL_law_15 24 rfl rfl
theorem dksL_law_17 : cL_law.data.toList.drop 407 = dktL_law_17 := dk_seg dksL_law_16 24 rfl rfl
theorem dksL_law_18 : cL_law.data.toList.drop 430 = dktL_law_18 := dk_seg dksL_law_17 23 rfl rfl
theorem dksL_law_19 : cL_law.data.toList.drop 453 = dktL_law_19 := dk_seg dksL_law_18 23 rfl rfl
theorem dksL_law_20 : cL_law.data.toList.drop 477 = dktL_law_20 := dk_seg dksL_law_19 24 rfl rfl
theorem dksL_law_21 : cL_law.data.toList.drop 501 = dktL_law_21 := dk_seg dksL_law_20 24 rfl rfl
theorem dksL_law_22 : cL_law.data.toList.drop 524 = dktL_law_22 := dk_seg dksL_law_21 23 rfl rfl
theorem dksL_law_23 : cL_law.data.toList.drop 548 = dktL_law_23 := dk_seg dksL_law_22 24 rfl rfl
theorem dksL_law_24 : cL_law.data.toList.drop 570 = dktL_law_24 := dk_seg dksL_law_23 22 rfl rfl
theorem dL_law_0 : decode cL_law 0 = .ok (.new 21, 3) := dk_187 0 21 (dk_at dksL_law_0 0 rfl rfl)
theorem dL_law_3 : decode cL_law 3 = .ok (.dup, 1) := dk_89 (dk_at dksL_law_0 3 rfl rfl)
theorem dL_law_4 : decode cL_law 4 = .ok (.invokespecial 40, 3) := dk_183 0 40 (dk_at dksL_law_0 4 rfl rfl)
theorem dL_law_7 : decode cL_law 7 = .ok (.astore_n 1, 1) := dk_76 (dk_at dksL_law_0 7 rfl rfl)
theorem dL_law_8 : decode cL_law 8 = .ok (.iconst 0, 1) := dk_3 (dk_at dksL_law_0 8 rfl rfl)
theorem dL_law_9 : decode cL_law 9 = .ok (.newarray .int, 2) := dk_188_10 (dk_at dksL_law_0 9 rfl rfl)
theorem dL_law_11 : decode cL_law 11 = .ok (.astore_n 2, 1) := dk_77 (dk_at dksL_law_0 11 rfl rfl)
theorem dL_law_12 : decode cL_law 12 = .ok (.iconst 0, 1) := dk_3 (dk_at dksL_law_0 12 rfl rfl)
theorem dL_law_13 : decode cL_law 13 = .ok (.newarray .int, 2) := dk_188_10 (dk_at dksL_law_0 13 rfl rfl)
theorem dL_law_15 : decode cL_law 15 = .ok (.astore_n 3, 1) := dk_78 (dk_at dksL_law_0 15 rfl rfl)
theorem dL_law_16 : decode cL_law 16 = .ok (.aload_n 1, 1) := dk_43 (dk_at dksL_law_0 16 rfl rfl)
theorem dL_law_17 : decode cL_law 17 = .ok (.aload_n 2, 1) := dk_44 (dk_at dksL_law_0 17 rfl rfl)
theorem dL_law_18 : decode cL_law 18 = .ok (.aload_n 3, 1) := dk_45 (dk_at dksL_law_0 18 rfl rfl)
theorem dL_law_19 : decode cL_law 19 = .ok (.aload_n 0, 1) := dk_42 (dk_at dksL_law_0 19 rfl rfl)
theorem dL_law_20 : decode cL_law 20 = .ok (.iconst 0, 1) := dk_3 (dk_at dksL_law_0 20 rfl rfl)
theorem dL_law_21 : decode cL_law 21 = .ok (.invokestatic 41, 3) := dk_184 0 41 (dk_at dksL_law_0 21 rfl rfl)
theorem dL_law_24 : decode cL_law 24 = .ok (.invokestatic 45, 3) := dk_184 0 45 (dk_at dksL_law_1 0 rfl rfl)
theorem dL_law_27 : decode cL_law 27 = .ok (.ifCond .ne 5, 3) := dk_154 0 5 (dk_at dksL_law_1 3 rfl rfl)
theorem dL_law_30 : decode cL_law 30 = .ok (.iconst 0, 1) := dk_3 (dk_at dksL_law_1 6 rfl rfl)
theorem dL_law_31 : decode cL_law 31 = .ok (.ireturn, 1) := dk_172 (dk_at dksL_law_1 7 rfl rfl)
theorem dL_law_32 : decode cL_law 32 = .ok (.iconst 0, 1) := dk_3 (dk_at dksL_law_1 8 rfl rfl)
theorem dL_law_33 : decode cL_law 33 = .ok (.istore 4, 2) := dk_54 4 (dk_at dksL_law_1 9 rfl rfl)
theorem dL_law_35 : decode cL_law 35 = .ok (.iload 4, 2) := dk_21 4 (dk_at dksL_law_1 11 rfl rfl)
theorem dL_law_37 : decode cL_law 37 = .ok (.iconst 2, 1) := dk_5 (dk_at dksL_law_1 13 rfl rfl)
theorem dL_law_38 : decode cL_law 38 = .ok (.iadd, 1) := dk_96 (dk_at dksL_law_1 14 rfl rfl)
theorem dL_law_39 : decode cL_law 39 = .ok (.bipush 96, 2) := dk_16 96 (dk_at dksL_law_1 15 rfl rfl)
theorem dL_law_41 : decode cL_law 41 = .ok (.if_icmp .ge 476, 3) := dk_162 1 220 (dk_at dksL_law_1 17 rfl rfl)
theorem dL_law_44 : decode cL_law 44 = .ok (.aload_n 0, 1) := dk_42 (dk_at dksL_law_1 20 rfl rfl)
theorem dL_law_45 : decode cL_law 45 = .ok (.iload 4, 2) := dk_21 4 (dk_at dksL_law_1 21 rfl rfl)
theorem dL_law_47 : decode cL_law 47 = .ok (.invokestatic 41, 3) := dk_184 0 41 (dk_at dksL_law_2 0 rfl rfl)
theorem dL_law_50 : decode cL_law 50 = .ok (.istore 5, 2) := dk_54 5 (dk_at dksL_law_2 3 rfl rfl)
theorem dL_law_52 : decode cL_law 52 = .ok (.aload_n 0, 1) := dk_42 (dk_at dksL_law_2 5 rfl rfl)
theorem dL_law_53 : decode cL_law 53 = .ok (.iload 4, 2) := dk_21 4 (dk_at dksL_law_2 6 rfl rfl)
theorem dL_law_55 : decode cL_law 55 = .ok (.iconst 1, 1) := dk_4 (dk_at dksL_law_2 8 rfl rfl)
theorem dL_law_56 : decode cL_law 56 = .ok (.iadd, 1) := dk_96 (dk_at dksL_law_2 9 rfl rfl)
theorem dL_law_57 : decode cL_law 57 = .ok (.invokestatic 41, 3) := dk_184 0 41 (dk_at dksL_law_2 10 rfl rfl)
theorem dL_law_60 : decode cL_law 60 = .ok (.istore 6, 2) := dk_54 6 (dk_at dksL_law_2 13 rfl rfl)
theorem dL_law_62 : decode cL_law 62 = .ok (.aload_n 0, 1) := dk_42 (dk_at dksL_law_2 15 rfl rfl)
theorem dL_law_63 : decode cL_law 63 = .ok (.iload 4, 2) := dk_21 4 (dk_at dksL_law_2 16 rfl rfl)
theorem dL_law_65 : decode cL_law 65 = .ok (.iconst 2, 1) := dk_5 (dk_at dksL_law_2 18 rfl rfl)
theorem dL_law_66 : decode cL_law 66 = .ok (.iadd, 1) := dk_96 (dk_at dksL_law_2 19 rfl rfl)
theorem dL_law_67 : decode cL_law 67 = .ok (.invokestatic 41, 3) := dk_184 0 41 (dk_at dksL_law_2 20 rfl rfl)
theorem dL_law_70 : decode cL_law 70 = .ok (.istore 7, 2) := dk_54 7 (dk_at dksL_law_3 0 rfl rfl)
theorem dL_law_72 : decode cL_law 72 = .ok (.iload 5, 2) := dk_21 5 (dk_at dksL_law_3 2 rfl rfl)
theorem dL_law_74 : decode cL_law 74 = .ok (.bipush 8, 2) := dk_16 8 (dk_at dksL_law_3 4 rfl rfl)
theorem dL_law_76 : decode cL_law 76 = .ok (.ishr, 1) := dk_122 (dk_at dksL_law_3 6 rfl rfl)
theorem dL_law_77 : decode cL_law 77 = .ok (.istore 8, 2) := dk_54 8 (dk_at dksL_law_3 7 rfl rfl)
theorem dL_law_79 : decode cL_law 79 = .ok (.iload 8, 2) := dk_21 8 (dk_at dksL_law_3 9 rfl rfl)
theorem dL_law_81 : decode cL_law 81 = .ok (.iconst 1, 1) := dk_4 (dk_at dksL_law_3 11 rfl rfl)
theorem dL_law_82 : decode cL_law 82 = .ok (.iand, 1) := dk_126 (dk_at dksL_law_3 12 rfl rfl)
theorem dL_law_83 : decode cL_law 83 = .ok (.ifCond .ne 7, 3) := dk_154 0 7 (dk_at dksL_law_3 13 rfl rfl)
theorem dL_law_86 : decode cL_law 86 = .ok (.iconst 1, 1) := dk_4 (dk_at dksL_law_3 16 rfl rfl)
theorem dL_law_87 : decode cL_law 87 = .ok (.goto 4, 3) := dk_167 0 4 (dk_at dksL_law_3 17 rfl rfl)
theorem dL_law_90 : decode cL_law 90 = .ok (.iconst 0, 1) := dk_3 (dk_at dksL_law_3 20 rfl rfl)
theorem dL_law_91 : decode cL_law 91 = .ok (.istore 9, 2) := dk_54 9 (dk_at dksL_law_3 21 rfl rfl)
theorem dL_law_93 : decode cL_law 93 = .ok (.iload 5, 2) := dk_21 5 (dk_at dksL_law_4 0 rfl rfl)
theorem dL_law_95 : decode cL_law 95 = .ok (.invokestatic 10, 3) := dk_184 0 10 (dk_at dksL_law_4 2 rfl rfl)
theorem dL_law_98 : decode cL_law 98 = .ok (.bipush 16, 2) := dk_16 16 (dk_at dksL_law_4 5 rfl rfl)
theorem dL_law_100 : decode cL_law 100 = .ok (.irem, 1) := dk_112 (dk_at dksL_law_4 7 rfl rfl)
theorem dL_law_101 : decode cL_law 101 = .ok (.tableswitch 300 0 7 #[47, 72, 72, 99, 99, 126, 155, 184], 47) := by decide +kernel
theorem dL_law_148 : decode cL_law 148 = .ok (.aload_n 1, 1) := dk_43 (dk_at dksL_law_6 0 rfl rfl)
theorem dL_law_149 : decode cL_law 149 = .ok (.iload 8, 2) := dk_21 8 (dk_at dksL_law_6 1 rfl rfl)
theorem dL_law_151 : decode cL_law 151 = .ok (.invokevirtual 49, 3) := dk_182 0 49 (dk_at dksL_law_6 3 rfl rfl)
theorem dL_law_154 : decode cL_law 154 = .ok (.iload 9, 2) := dk_21 9 (dk_at dksL_law_6 6 rfl rfl)
theorem dL_law_156 : decode cL_law 156 = .ok (.ifCond .eq 10, 3) := dk_153 0 10 (dk_at dksL_law_6 8 rfl rfl)
theorem dL_law_159 : decode cL_law 159 = .ok (.iconst 0, 1) := dk_3 (dk_at dksL_law_6 11 rfl rfl)
theorem dL_law_160 : decode cL_law 160 = .ok (.newarray .int, 2) := dk_188_10 (dk_at dksL_law_6 12 rfl rfl)
theorem dL_law_162 : decode cL_law 162 = .ok (.astore_n 2, 1) := dk_77 (dk_at dksL_law_6 14 rfl rfl)
theorem dL_law_163 : decode cL_law 163 = .ok (.goto 335, 3) := dk_167 1 79 (dk_at dksL_law_6 15 rfl rfl)
theorem dL_law_166 : decode cL_law 166 = .ok (.iconst 0, 1) := dk_3 (dk_at dksL_law_6 18 rfl rfl)
theorem dL_law_167 : decode cL_law 167 = .ok (.newarray .int, 2) := dk_188_10 (dk_at dksL_law_6 19 rfl rfl)
theorem dL_law_169 : decode cL_law 169 = .ok (.astore_n 3, 1) := dk_78 (dk_at dksL_law_6 21 rfl rfl)
theorem dL_law_170 : decode cL_law 170 = .ok (.goto 328, 3) := dk_167 1 72 (dk_at dksL_law_7 0 rfl rfl)
theorem dL_law_173 : decode cL_law 173 = .ok (.aload_n 1, 1) := dk_43 (dk_at dksL_law_7 3 rfl rfl)
theorem dL_law_174 : decode cL_law 174 = .ok (.iload 6, 2) := dk_21 6 (dk_at dksL_law_7 4 rfl rfl)
theorem dL_law_176 : decode cL_law 176 = .ok (.iload 7, 2) := dk_21 7 (dk_at dksL_law_7 6 rfl rfl)
theorem dL_law_178 : decode cL_law 178 = .ok (.invokevirtual 53, 3) := dk_182 0 53 (dk_at dksL_law_7 8 rfl rfl)
theorem dL_law_181 : decode cL_law 181 = .ok (.aload_n 2, 1) := dk_44 (dk_at dksL_law_7 11 rfl rfl)
theorem dL_law_182 : decode cL_law 182 = .ok (.iload 6, 2) := dk_21 6 (dk_at dksL_law_7 12 rfl rfl)
theorem dL_law_184 : decode cL_law 184 = .ok (.bipush 63, 2) := dk_16 63 (dk_at dksL_law_7 14 rfl rfl)
theorem dL_law_186 : decode cL_law 186 = .ok (.iand, 1) := dk_126 (dk_at dksL_law_7 16 rfl rfl)
theorem dL_law_187 : decode cL_law 187 = .ok (.iload 7, 2) := dk_21 7 (dk_at dksL_law_7 17 rfl rfl)
theorem dL_law_189 : decode cL_law 189 = .ok (.invokestatic 57, 3) := dk_184 0 57 (dk_at dksL_law_7 19 rfl rfl)
theorem dL_law_192 : decode cL_law 192 = .ok (.iconst 1, 1) := dk_4 (dk_at dksL_law_7 22 rfl rfl)
theorem dL_law_193 : decode cL_law 193 = .ok (.invokestatic 60, 3) := dk_184 0 60 (dk_at dksL_law_8 0 rfl rfl)
theorem dL_law_196 : decode cL_law 196 = .ok (.astore_n 3, 1) := dk_78 (dk_at dksL_law_8 3 rfl rfl)
theorem dL_law_197 : decode cL_law 197 = .ok (.goto 301, 3) := dk_167 1 45 (dk_at dksL_law_8 4 rfl rfl)
theorem dL_law_200 : decode cL_law 200 = .ok (.aload_n 1, 1) := dk_43 (dk_at dksL_law_8 7 rfl rfl)
theorem dL_law_201 : decode cL_law 201 = .ok (.iload 6, 2) := dk_21 6 (dk_at dksL_law_8 8 rfl rfl)
theorem dL_law_203 : decode cL_law 203 = .ok (.iload 7, 2) := dk_21 7 (dk_at dksL_law_8 10 rfl rfl)
theorem dL_law_205 : decode cL_law 205 = .ok (.invokevirtual 64, 3) := dk_182 0 64 (dk_at dksL_law_8 12 rfl rfl)
theorem dL_law_208 : decode cL_law 208 = .ok (.aload_n 2, 1) := dk_44 (dk_at dksL_law_8 15 rfl rfl)
theorem dL_law_209 : decode cL_law 209 = .ok (.iload 6, 2) := dk_21 6 (dk_at dksL_law_8 16 rfl rfl)
theorem dL_law_211 : decode cL_law 211 = .ok (.bipush 63, 2) := dk_16 63 (dk_at dksL_law_8 18 rfl rfl)
theorem dL_law_213 : decode cL_law 213 = .ok (.iand, 1) := dk_126 (dk_at dksL_law_8 20 rfl rfl)
theorem dL_law_214 : decode cL_law 214 = .ok (.iload 7, 2) := dk_21 7 (dk_at dksL_law_8 21 rfl rfl)
theorem dL_law_216 : decode cL_law 216 = .ok (.invokestatic 57, 3) := dk_184 0 57 (dk_at dksL_law_9 0 rfl rfl)
theorem dL_law_219 : decode cL_law 219 = .ok (.iconst 0, 1) := dk_3 (dk_at dksL_law_9 3 rfl rfl)
theorem dL_law_220 : decode cL_law 220 = .ok (.invokestatic 60, 3) := dk_184 0 60 (dk_at dksL_law_9 4 rfl rfl)
theorem dL_law_223 : decode cL_law 223 = .ok (.astore_n 3, 1) := dk_78 (dk_at dksL_law_9 7 rfl rfl)
theorem dL_law_224 : decode cL_law 224 = .ok (.goto 274, 3) := dk_167 1 18 (dk_at dksL_law_9 8 rfl rfl)
theorem dL_law_227 : decode cL_law 227 = .ok (.aload_n 1, 1) := dk_43 (dk_at dksL_law_9 11 rfl rfl)
theorem dL_law_228 : decode cL_law 228 = .ok (.iload 8, 2) := dk_21 8 (dk_at dksL_law_9 12 rfl rfl)
theorem dL_law_230 : decode cL_law 230 = .ok (.invokevirtual 67, 3) := dk_182 0 67 (dk_at dksL_law_9 14 rfl rfl)
theorem dL_law_233 : decode cL_law 233 = .ok (.iload 9, 2) := dk_21 9 (dk_at dksL_law_9 17 rfl rfl)
theorem dL_law_235 : decode cL_law 235 = .ok (.ifCond .eq 12, 3) := dk_153 0 12 (dk_at dksL_law_9 19 rfl rfl)
theorem dL_law_238 : decode cL_law 238 = .ok (.aload_n 2, 1) := dk_44 (dk_at dksL_law_9 22 rfl rfl)
theorem dL_law_239 : decode cL_law 239 = .ok (.iconst 0, 1) := dk_3 (dk_at dksL_law_9 23 rfl rfl)
theorem dL_law_240 : decode cL_law 240 = .ok (.invokestatic 69, 3) := dk_184 0 69 (dk_at dksL_law_10 0 rfl rfl)
theorem dL_law_243 : decode cL_law 243 = .ok (.astore_n 2, 1) := dk_77 (dk_at dksL_law_10 3 rfl rfl)
theorem dL_law_244 : decode cL_law 244 = .ok (.goto 254, 3) := dk_167 0 254 (dk_at dksL_law_10 4 rfl rfl)
theorem dL_law_247 : decode cL_law 247 = .ok (.aload_n 3, 1) := dk_45 (dk_at dksL_law_10 7 rfl rfl)
theorem dL_law_248 : decode cL_law 248 = .ok (.iconst 0, 1) := dk_3 (dk_at dksL_law_10 8 rfl rfl)
theorem dL_law_249 : decode cL_law 249 = .ok (.invokestatic 69, 3) := dk_184 0 69 (dk_at dksL_law_10 9 rfl rfl)
theorem dL_law_252 : decode cL_law 252 = .ok (.astore_n 3, 1) := dk_78 (dk_at dksL_law_10 12 rfl rfl)
theorem dL_law_253 : decode cL_law 253 = .ok (.goto 245, 3) := dk_167 0 245 (dk_at dksL_law_10 13 rfl rfl)
theorem dL_law_256 : decode cL_law 256 = .ok (.aload_n 1, 1) := dk_43 (dk_at dksL_law_10 16 rfl rfl)
theorem dL_law_257 : decode cL_law 257 = .ok (.iload 8, 2) := dk_21 8 (dk_at dksL_law_10 17 rfl rfl)
theorem dL_law_259 : decode cL_law 259 = .ok (.invokevirtual 73, 3) := dk_182 0 73 (dk_at dksL_law_10 19 rfl rfl)
theorem dL_law_262 : decode cL_law 262 = .ok (.iload 9, 2) := dk_21 9 (dk_at dksL_law_10 22 rfl rfl)
theorem dL_law_264 : decode cL_law 264 = .ok (.ifCond .eq 12, 3) := dk_153 0 12 (dk_at dksL_law_11 0 rfl rfl)
theorem dL_law_267 : decode cL_law 267 = .ok (.aload_n 2, 1) := dk_44 (dk_at dksL_law_11 3 rfl rfl)
theorem dL_law_268 : decode cL_law 268 = .ok (.iconst 1, 1) := dk_4 (dk_at dksL_law_11 4 rfl rfl)
theorem dL_law_269 : decode cL_law 269 = .ok (.invokestatic 69, 3) := dk_184 0 69 (dk_at dksL_law_11 5 rfl rfl)
theorem dL_law_272 : decode cL_law 272 = .ok (.astore_n 2, 1) := dk_77 (dk_at dksL_law_11 8 rfl rfl)
theorem dL_law_273 : decode cL_law 273 = .ok (.goto 225, 3) := dk_167 0 225 (dk_at dksL_law_11 9 rfl rfl)
theorem dL_law_276 : decode cL_law 276 = .ok (.aload_n 3, 1) := dk_45 (dk_at dksL_law_11 12 rfl rfl)
theorem dL_law_277 : decode cL_law 277 = .ok (.iconst 1, 1) := dk_4 (dk_at dksL_law_11 13 rfl rfl)
theorem dL_law_278 : decode cL_law 278 = .ok (.invokestatic 69, 3) := dk_184 0 69 (dk_at dksL_law_11 14 rfl rfl)
theorem dL_law_281 : decode cL_law 281 = .ok (.astore_n 3, 1) := dk_78 (dk_at dksL_law_11 17 rfl rfl)
theorem dL_law_282 : decode cL_law 282 = .ok (.goto 216, 3) := dk_167 0 216 (dk_at dksL_law_11 18 rfl rfl)
theorem dL_law_285 : decode cL_law 285 = .ok (.iconst 0, 1) := dk_3 (dk_at dksL_law_11 21 rfl rfl)
theorem dL_law_286 : decode cL_law 286 = .ok (.istore 10, 2) := dk_54 10 (dk_at dksL_law_11 22 rfl rfl)
theorem dL_law_288 : decode cL_law 288 = .ok (.iload 10, 2) := dk_21 10 (dk_at dksL_law_12 0 rfl rfl)
theorem dL_law_290 : decode cL_law 290 = .ok (.iconst 2, 1) := dk_5 (dk_at dksL_law_12 2 rfl rfl)
theorem dL_law_291 : decode cL_law 291 = .ok (.if_icmp .ge 107, 3) := dk_162 0 107 (dk_at dksL_law_12 3 rfl rfl)
theorem dL_law_294 : decode cL_law 294 = .ok (.iload 10, 2) := dk_21 10 (dk_at dksL_law_12 6 rfl rfl)
theorem dL_law_296 : decode cL_law 296 = .ok (.ifCond .ne 8, 3) := dk_154 0 8 (dk_at dksL_law_12 8 rfl rfl)
theorem dL_law_299 : decode cL_law 299 = .ok (.aload_n 2, 1) := dk_44 (dk_at dksL_law_12 11 rfl rfl)
theorem dL_law_300 : decode cL_law 300 = .ok (.arraylength, 1) := dk_190 (dk_at dksL_law_12 12 rfl rfl)
theorem dL_law_301 : decode cL_law 301 = .ok (.goto 5, 3) := dk_167 0 5 (dk_at dksL_law_12 13 rfl rfl)
theorem dL_law_304 : decode cL_law 304 = .ok (.aload_n 3, 1) := dk_45 (dk_at dksL_law_12 16 rfl rfl)
theorem dL_law_305 : decode cL_law 305 = .ok (.arraylength, 1) := dk_190 (dk_at dksL_law_12 17 rfl rfl)
theorem dL_law_306 : decode cL_law 306 = .ok (.bipush 60, 2) := dk_16 60 (dk_at dksL_law_12 18 rfl rfl)
theorem dL_law_308 : decode cL_law 308 = .ok (.if_icmp .gt 7, 3) := dk_163 0 7 (dk_at dksL_law_12 20 rfl rfl)
theorem dL_law_311 : decode cL_law 311 = .ok (.iconst 1, 1) := dk_4 (dk_at dksL_law_12 23 rfl rfl)
theorem dL_law_312 : decode cL_law 312 = .ok (.goto 4, 3) := dk_167 0 4 (dk_at dksL_law_13 0 rfl rfl)
theorem dL_law_315 : decode cL_law 315 = .ok (.iconst 0, 1) := dk_3 (dk_at dksL_law_13 3 rfl rfl)
theorem dL_law_316 : decode cL_law 316 = .ok (.istore 11, 2) := dk_54 11 (dk_at dksL_law_13 4 rfl rfl)
theorem dL_law_318 : decode cL_law 318 = .ok (.aload_n 1, 1) := dk_43 (dk_at dksL_law_13 6 rfl rfl)
theorem dL_law_319 : decode cL_law 319 = .ok (.iload 10, 2) := dk_21 10 (dk_at dksL_law_13 7 rfl rfl)
theorem dL_law_321 : decode cL_law 321 = .ok (.iload 6, 2) := dk_21 6 (dk_at dksL_law_13 9 rfl rfl)
theorem dL_law_323 : decode cL_law 323 = .ok (.iload 7, 2) := dk_21 7 (dk_at dksL_law_13 11 rfl rfl)
theorem dL_law_325 : decode cL_law 325 = .ok (.invokevirtual 75, 3) := dk_182 0 75 (dk_at dksL_law_13 13 rfl rfl)
theorem dL_law_328 : decode cL_law 328 = .ok (.iload 11, 2) := dk_21 11 (dk_at dksL_law_13 16 rfl rfl)
theorem dL_law_330 : decode cL_law 330 = .ok (.if_icmp .eq 5, 3) := dk_159 0 5 (dk_at dksL_law_13 18 rfl rfl)
theorem dL_law_333 : decode cL_law 333 = .ok (.iconst 0, 1) := dk_3 (dk_at dksL_law_13 21 rfl rfl)
theorem dL_law_334 : decode cL_law 334 = .ok (.ireturn, 1) := dk_172 (dk_at dksL_law_13 22 rfl rfl)
theorem dL_law_335 : decode cL_law 335 = .ok (.iload 11, 2) := dk_21 11 (dk_at dksL_law_14 0 rfl rfl)
theorem dL_law_337 : decode cL_law 337 = .ok (.ifCond .eq 26, 3) := dk_153 0 26 (dk_at dksL_law_14 2 rfl rfl)
theorem dL_law_340 : decode cL_law 340 = .ok (.iload 10, 2) := dk_21 10 (dk_at dksL_law_14 5 rfl rfl)
theorem dL_law_342 : decode cL_law 342 = .ok (.ifCond .ne 21, 3) := dk_154 0 21 (dk_at dksL_law_14 7 rfl rfl)
theorem dL_law_345 : decode cL_law 345 = .ok (.aload_n 2, 1) := dk_44 (dk_at dksL_law_14 10 rfl rfl)
theorem dL_law_346 : decode cL_law 346 = .ok (.iload 6, 2) := dk_21 6 (dk_at dksL_law_14 11 rfl rfl)
theorem dL_law_348 : decode cL_law 348 = .ok (.invokestatic 57, 3) := dk_184 0 57 (dk_at dksL_law_14 13 rfl rfl)
theorem dL_law_351 : decode cL_law 351 = .ok (.invokestatic 79, 3) := dk_184 0 79 (dk_at dksL_law_14 16 rfl rfl)
theorem dL_law_354 : decode cL_law 354 = .ok (.iload 7, 2) := dk_21 7 (dk_at dksL_law_14 19 rfl rfl)
theorem dL_law_356 : decode cL_law 356 = .ok (.invokestatic 57, 3) := dk_184 0 57 (dk_at dksL_law_14 21 rfl rfl)
theorem dL_law_359 : decode cL_law 359 = .ok (.invokestatic 79, 3) := dk_184 0 79 (dk_at dksL_law_15 0 rfl rfl)
theorem dL_law_362 : decode cL_law 362 = .ok (.astore_n 2, 1) := dk_77 (dk_at dksL_law_15 3 rfl rfl)
theorem dL_law_363 : decode cL_law 363 = .ok (.iload 11, 2) := dk_21 11 (dk_at dksL_law_15 4 rfl rfl)
theorem dL_law_365 : decode cL_law 365 = .ok (.ifCond .eq 27, 3) := dk_153 0 27 (dk_at dksL_law_15 6 rfl rfl)
theorem dL_law_368 : decode cL_law 368 = .ok (.iload 10, 2) := dk_21 10 (dk_at dksL_law_15 9 rfl rfl)
theorem dL_law_370 : decode cL_law 370 = .ok (.iconst 1, 1) := dk_4 (dk_at dksL_law_15 11 rfl rfl)
theorem dL_law_371 : decode cL_law 371 = .ok (.if_icmp .ne 21, 3) := dk_160 0 21 (dk_at dksL_law_15 12 rfl rfl)
theorem dL_law_374 : decode cL_law 374 = .ok (.aload_n 3, 1) := dk_45 (dk_at dksL_law_15 15 rfl rfl)
theorem dL_law_375 : decode cL_law 375 = .ok (.iload 6, 2) := dk_21 6 (dk_at dksL_law_15 16 rfl rfl)
theorem dL_law_377 : decode cL_law 377 = .ok (.invokestatic 57, 3) := dk_184 0 57 (dk_at dksL_law_15 18 rfl rfl)
theorem dL_law_380 : decode cL_law 380 = .ok (.invokestatic 79, 3) := dk_184 0 79 (dk_at dksL_law_15 21 rfl rfl)
theorem dL_law_383 : decode cL_law 383 = .ok (.iload 7, 2) := dk_21 7 (dk_at dksL_law_16 0 rfl rfl)
theorem dL_law_385 : decode cL_law 385 = .ok (.invokestatic 57, 3) := dk_184 0 57 (dk_at dksL_law_16 2 rfl rfl)
theorem dL_law_388 : decode cL_law 388 = .ok (.invokestatic 79, 3) := dk_184 0 79 (dk_at dksL_law_16 5 rfl rfl)
theorem dL_law_391 : decode cL_law 391 = .ok (.astore_n 3, 1) := dk_78 (dk_at dksL_law_16 8 rfl rfl)
theorem dL_law_392 : decode cL_law 392 = .ok (.iinc 10 1, 3) := dk_132 10 1 (dk_at dksL_law_16 9 rfl rfl)
theorem dL_law_395 : decode cL_law 395 = .ok (.goto (-107), 3) := dk_167 255 149 (dk_at dksL_law_16 12 rfl rfl)
theorem dL_law_398 : decode cL_law 398 = .ok (.goto 100, 3) := dk_167 0 100 (dk_at dksL_law_16 15 rfl rfl)
theorem dL_law_401 : decode cL_law 401 = .ok (.iload 9, 2) := dk_21 9 (dk_at dksL_law_16 18 rfl rfl)
theorem dL_law_403 : decode cL_law 403 = .ok (.ifCond .eq 8, 3) := dk_153 0 8 (dk_at dksL_law_16 20 rfl rfl)
theorem dL_law_406 : decode cL_law 406 = .ok (.aload_n 2, 1) := dk_44 (dk_at dksL_law_16 23 rfl rfl)
theorem dL_law_407 : decode cL_law 407 = .ok (.arraylength, 1) := dk_190 (dk_at dksL_law_17 0 rfl rfl)
theorem dL_law_408 : decode cL_law 408 = .ok (.goto 5, 3) := dk_167 0 5 (dk_at dksL_law_17 1 rfl rfl)
theorem dL_law_411 : decode cL_law 411 = .ok (.aload_n 3, 1) := dk_45 (dk_at dksL_law_17 4 rfl rfl)
theorem dL_law_412 : decode cL_law 412 = .ok (.arraylength, 1) := dk_190 (dk_at dksL_law_17 5 rfl rfl)
theorem dL_law_413 : decode cL_law 413 = .ok (.bipush 60, 2) := dk_16 60 (dk_at dksL_law_17 6 rfl rfl)
theorem dL_law_415 : decode cL_law 415 = .ok (.if_icmp .gt 7, 3) := dk_163 0 7 (dk_at dksL_law_17 8 rfl rfl)
theorem dL_law_418 : decode cL_law 418 = .ok (.iconst 1, 1) := dk_4 (dk_at dksL_law_17 11 rfl rfl)
theorem dL_law_419 : decode cL_law 419 = .ok (.goto 4, 3) := dk_167 0 4 (dk_at dksL_law_17 12 rfl rfl)
theorem dL_law_422 : decode cL_law 422 = .ok (.iconst 0, 1) := dk_3 (dk_at dksL_law_17 15 rfl rfl)
theorem dL_law_423 : decode cL_law 423 = .ok (.istore 10, 2) := dk_54 10 (dk_at dksL_law_17 16 rfl rfl)
theorem dL_law_425 : decode cL_law 425 = .ok (.aload_n 1, 1) := dk_43 (dk_at dksL_law_17 18 rfl rfl)
theorem dL_law_426 : decode cL_law 426 = .ok (.iload 8, 2) := dk_21 8 (dk_at dksL_law_17 19 rfl rfl)
theorem dL_law_428 : decode cL_law 428 = .ok (.iload 6, 2) := dk_21 6 (dk_at dksL_law_17 21 rfl rfl)
theorem dL_law_430 : decode cL_law 430 = .ok (.iload 7, 2) := dk_21 7 (dk_at dksL_law_18 0 rfl rfl)
theorem dL_law_432 : decode cL_law 432 = .ok (.invokevirtual 75, 3) := dk_182 0 75 (dk_at dksL_law_18 2 rfl rfl)
theorem dL_law_435 : decode cL_law 435 = .ok (.iload 10, 2) := dk_21 10 (dk_at dksL_law_18 5 rfl rfl)
theorem dL_law_437 : decode cL_law 437 = .ok (.if_icmp .eq 5, 3) := dk_159 0 5 (dk_at dksL_law_18 7 rfl rfl)
theorem dL_law_440 : decode cL_law 440 = .ok (.iconst 0, 1) := dk_3 (dk_at dksL_law_18 10 rfl rfl)
theorem dL_law_441 : decode cL_law 441 = .ok (.ireturn, 1) := dk_172 (dk_at dksL_law_18 11 rfl rfl)
theorem dL_law_442 : decode cL_law 442 = .ok (.iload 10, 2) := dk_21 10 (dk_at dksL_law_18 12 rfl rfl)
theorem dL_law_444 : decode cL_law 444 = .ok (.ifCond .eq 26, 3) := dk_153 0 26 (dk_at dksL_law_18 14 rfl rfl)
theorem dL_law_447 : decode cL_law 447 = .ok (.iload 9, 2) := dk_21 9 (dk_at dksL_law_18 17 rfl rfl)
theorem dL_law_449 : decode cL_law 449 = .ok (.ifCond .eq 21, 3) := dk_153 0 21 (dk_at dksL_law_18 19 rfl rfl)
theorem dL_law_452 : decode cL_law 452 = .ok (.aload_n 2, 1) := dk_44 (dk_at dksL_law_18 22 rfl rfl)
theorem dL_law_453 : decode cL_law 453 = .ok (.iload 6, 2) := dk_21 6 (dk_at dksL_law_19 0 rfl rfl)
theorem dL_law_455 : decode cL_law 455 = .ok (.invokestatic 57, 3) := dk_184 0 57 (dk_at dksL_law_19 2 rfl rfl)
theorem dL_law_458 : decode cL_law 458 = .ok (.invokestatic 79, 3) := dk_184 0 79 (dk_at dksL_law_19 5 rfl rfl)
theorem dL_law_461 : decode cL_law 461 = .ok (.iload 7, 2) := dk_21 7 (dk_at dksL_law_19 8 rfl rfl)
theorem dL_law_463 : decode cL_law 463 = .ok (.invokestatic 57, 3) := dk_184 0 57 (dk_at dksL_law_19 10 rfl rfl)
theorem dL_law_466 : decode cL_law 466 = .ok (.invokestatic 79, 3) := dk_184 0 79 (dk_at dksL_law_19 13 rfl rfl)
theorem dL_law_469 : decode cL_law 469 = .ok (.astore_n 2, 1) := dk_77 (dk_at dksL_law_19 16 rfl rfl)
theorem dL_law_470 : decode cL_law 470 = .ok (.iload 10, 2) := dk_21 10 (dk_at dksL_law_19 17 rfl rfl)
theorem dL_law_472 : decode cL_law 472 = .ok (.ifCond .eq 26, 3) := dk_153 0 26 (dk_at dksL_law_19 19 rfl rfl)
theorem dL_law_475 : decode cL_law 475 = .ok (.iload 9, 2) := dk_21 9 (dk_at dksL_law_19 22 rfl rfl)
theorem dL_law_477 : decode cL_law 477 = .ok (.ifCond .ne 21, 3) := dk_154 0 21 (dk_at dksL_law_20 0 rfl rfl)
theorem dL_law_480 : decode cL_law 480 = .ok (.aload_n 3, 1) := dk_45 (dk_at dksL_law_20 3 rfl rfl)
theorem dL_law_481 : decode cL_law 481 = .ok (.iload 6, 2) := dk_21 6 (dk_at dksL_law_20 4 rfl rfl)
theorem dL_law_483 : decode cL_law 483 = .ok (.invokestatic 57, 3) := dk_184 0 57 (dk_at dksL_law_20 6 rfl rfl)
theorem dL_law_486 : decode cL_law 486 = .ok (.invokestatic 79, 3) := dk_184 0 79 (dk_at dksL_law_20 9 rfl rfl)
theorem dL_law_489 : decode cL_law 489 = .ok (.iload 7, 2) := dk_21 7 (dk_at dksL_law_20 12 rfl rfl)
theorem dL_law_491 : decode cL_law 491 = .ok (.invokestatic 57, 3) := dk_184 0 57 (dk_at dksL_law_20 14 rfl rfl)
theorem dL_law_494 : decode cL_law 494 = .ok (.invokestatic 79, 3) := dk_184 0 79 (dk_at dksL_law_20 17 rfl rfl)
theorem dL_law_497 : decode cL_law 497 = .ok (.astore_n 3, 1) := dk_78 (dk_at dksL_law_20 20 rfl rfl)
theorem dL_law_498 : decode cL_law 498 = .ok (.aload_n 1, 1) := dk_43 (dk_at dksL_law_20 21 rfl rfl)
theorem dL_law_499 : decode cL_law 499 = .ok (.aload_n 2, 1) := dk_44 (dk_at dksL_law_20 22 rfl rfl)
theorem dL_law_500 : decode cL_law 500 = .ok (.aload_n 3, 1) := dk_45 (dk_at dksL_law_20 23 rfl rfl)
theorem dL_law_501 : decode cL_law 501 = .ok (.iload 7, 2) := dk_21 7 (dk_at dksL_law_21 0 rfl rfl)
theorem dL_law_503 : decode cL_law 503 = .ok (.invokestatic 45, 3) := dk_184 0 45 (dk_at dksL_law_21 2 rfl rfl)
theorem dL_law_506 : decode cL_law 506 = .ok (.ifCond .ne 5, 3) := dk_154 0 5 (dk_at dksL_law_21 5 rfl rfl)
theorem dL_law_509 : decode cL_law 509 = .ok (.iconst 0, 1) := dk_3 (dk_at dksL_law_21 8 rfl rfl)
theorem dL_law_510 : decode cL_law 510 = .ok (.ireturn, 1) := dk_172 (dk_at dksL_law_21 9 rfl rfl)
theorem dL_law_511 : decode cL_law 511 = .ok (.iinc 4 3, 3) := dk_132 4 3 (dk_at dksL_law_21 10 rfl rfl)
theorem dL_law_514 : decode cL_law 514 = .ok (.goto (-479), 3) := dk_167 254 33 (dk_at dksL_law_21 13 rfl rfl)
theorem dL_law_517 : decode cL_law 517 = .ok (.aload_n 1, 1) := dk_43 (dk_at dksL_law_21 16 rfl rfl)
theorem dL_law_518 : decode cL_law 518 = .ok (.iconst 0, 1) := dk_3 (dk_at dksL_law_21 17 rfl rfl)
theorem dL_law_519 : decode cL_law 519 = .ok (.aload_n 0, 1) := dk_42 (dk_at dksL_law_21 18 rfl rfl)
theorem dL_law_520 : decode cL_law 520 = .ok (.iconst 1, 1) := dk_4 (dk_at dksL_law_21 19 rfl rfl)
theorem dL_law_521 : decode cL_law 521 = .ok (.invokestatic 41, 3) := dk_184 0 41 (dk_at dksL_law_21 20 rfl rfl)
theorem dL_law_524 : decode cL_law 524 = .ok (.invokevirtual 64, 3) := dk_182 0 64 (dk_at dksL_law_22 0 rfl rfl)
theorem dL_law_527 : decode cL_law 527 = .ok (.aload_n 1, 1) := dk_43 (dk_at dksL_law_22 3 rfl rfl)
theorem dL_law_528 : decode cL_law 528 = .ok (.aload_n 2, 1) := dk_44 (dk_at dksL_law_22 4 rfl rfl)
theorem dL_law_529 : decode cL_law 529 = .ok (.aload_n 2, 1) := dk_44 (dk_at dksL_law_22 5 rfl rfl)
theorem dL_law_530 : decode cL_law 530 = .ok (.aload_n 0, 1) := dk_42 (dk_at dksL_law_22 6 rfl rfl)
theorem dL_law_531 : decode cL_law 531 = .ok (.iconst 2, 1) := dk_5 (dk_at dksL_law_22 7 rfl rfl)
theorem dL_law_532 : decode cL_law 532 = .ok (.invokestatic 41, 3) := dk_184 0 41 (dk_at dksL_law_22 8 rfl rfl)
theorem dL_law_535 : decode cL_law 535 = .ok (.invokestatic 45, 3) := dk_184 0 45 (dk_at dksL_law_22 11 rfl rfl)
theorem dL_law_538 : decode cL_law 538 = .ok (.ifCond .ne 5, 3) := dk_154 0 5 (dk_at dksL_law_22 14 rfl rfl)
theorem dL_law_541 : decode cL_law 541 = .ok (.iconst 0, 1) := dk_3 (dk_at dksL_law_22 17 rfl rfl)
theorem dL_law_542 : decode cL_law 542 = .ok (.ireturn, 1) := dk_172 (dk_at dksL_law_22 18 rfl rfl)
theorem dL_law_543 : decode cL_law 543 = .ok (.aload_n 1, 1) := dk_43 (dk_at dksL_law_22 19 rfl rfl)
theorem dL_law_544 : decode cL_law 544 = .ok (.iconst 1, 1) := dk_4 (dk_at dksL_law_22 20 rfl rfl)
theorem dL_law_545 : decode cL_law 545 = .ok (.invokevirtual 73, 3) := dk_182 0 73 (dk_at dksL_law_22 21 rfl rfl)
theorem dL_law_548 : decode cL_law 548 = .ok (.aload_n 1, 1) := dk_43 (dk_at dksL_law_23 0 rfl rfl)
theorem dL_law_549 : decode cL_law 549 = .ok (.aload_n 2, 1) := dk_44 (dk_at dksL_law_23 1 rfl rfl)
theorem dL_law_550 : decode cL_law 550 = .ok (.aload_n 2, 1) := dk_44 (dk_at dksL_law_23 2 rfl rfl)
theorem dL_law_551 : decode cL_law 551 = .ok (.iconst 1, 1) := dk_4 (dk_at dksL_law_23 3 rfl rfl)
theorem dL_law_552 : decode cL_law 552 = .ok (.invokestatic 69, 3) := dk_184 0 69 (dk_at dksL_law_23 4 rfl rfl)
theorem dL_law_555 : decode cL_law 555 = .ok (.aload_n 0, 1) := dk_42 (dk_at dksL_law_23 7 rfl rfl)
theorem dL_law_556 : decode cL_law 556 = .ok (.iconst 3, 1) := dk_6 (dk_at dksL_law_23 8 rfl rfl)
theorem dL_law_557 : decode cL_law 557 = .ok (.invokestatic 41, 3) := dk_184 0 41 (dk_at dksL_law_23 9 rfl rfl)
theorem dL_law_560 : decode cL_law 560 = .ok (.invokestatic 45, 3) := dk_184 0 45 (dk_at dksL_law_23 12 rfl rfl)
theorem dL_law_563 : decode cL_law 563 = .ok (.ifCond .eq 14, 3) := dk_153 0 14 (dk_at dksL_law_23 15 rfl rfl)
theorem dL_law_566 : decode cL_law 566 = .ok (.aload_n 1, 1) := dk_43 (dk_at dksL_law_23 18 rfl rfl)
theorem dL_law_567 : decode cL_law 567 = .ok (.invokevirtual 29, 3) := dk_182 0 29 (dk_at dksL_law_23 19 rfl rfl)
theorem dL_law_570 : decode cL_law 570 = .ok (.ifCond .eq 7, 3) := dk_153 0 7 (dk_at dksL_law_24 0 rfl rfl)
theorem dL_law_573 : decode cL_law 573 = .ok (.iconst 1, 1) := dk_4 (dk_at dksL_law_24 3 rfl rfl)
theorem dL_law_574 : decode cL_law 574 = .ok (.goto 4, 3) := dk_167 0 4 (dk_at dksL_law_24 4 rfl rfl)
theorem dL_law_577 : decode cL_law 577 = .ok (.iconst 0, 1) := dk_3 (dk_at dksL_law_24 7 rfl rfl)
theorem dL_law_578 : decode cL_law 578 = .ok (.ireturn, 1) := dk_172 (dk_at dksL_law_24 8 rfl rfl)
/-! TextDeskLaw -/
set_option maxRecDepth 100000
def RX0 : String := "TextDeskLaw"
abbrev cX0_cell : ByteArray := method_2_code
def yX0_cell : MethodName := ⟨RX0, "cell", "([II)I"⟩
def dkwX0_cell_0 : List UInt8 := [27, 42, 190, 162, 0, 15, 27, 16, 96, 162, 0, 9, 42, 27, 46, 167, 0, 4, 3, 172]
abbrev dktX0_cell_0 : List UInt8 := dkwX0_cell_0 ++ []
theorem dksX0_cell_0 : cX0_cell.data.toList.drop 0 = dktX0_cell_0 := by decide +kernel
theorem dX0_cell_0 : decode cX0_cell 0 = .ok (.iload_n 1, 1) := dk_27 (dk_at dksX0_cell_0 0 rfl rfl)
theorem dX0_cell_1 : decode cX0_cell 1 = .ok (.aload_n 0, 1) := dk_42 (dk_at dksX0_cell_0 1 rfl rfl)
theorem dX0_cell_2 : decode cX0_cell 2 = .ok (.arraylength, 1) := dk_190 (dk_at dksX0_cell_0 2 rfl rfl)
theorem dX0_cell_3 : decode cX0_cell 3 = .ok (.if_icmp .ge 15, 3) := dk_162 0 15 (dk_at dksX0_cell_0 3 rfl rfl)
theorem dX0_cell_6 : decode cX0_cell 6 = .ok (.iload_n 1, 1) := dk_27 (dk_at dksX0_cell_0 6 rfl rfl)
theorem dX0_cell_7 : decode cX0_cell 7 = .ok (.bipush 96, 2) := dk_16 96 (dk_at dksX0_cell_0 7 rfl rfl)
theorem dX0_cell_9 : decode cX0_cell 9 = .ok (.if_icmp .ge 9, 3) := dk_162 0 9 (dk_at dksX0_cell_0 9 rfl rfl)
theorem dX0_cell_12 : decode cX0_cell 12 = .ok (.aload_n 0, 1) := dk_42 (dk_at dksX0_cell_0 12 rfl rfl)
theorem dX0_cell_13 : decode cX0_cell 13 = .ok (.iload_n 1, 1) := dk_27 (dk_at dksX0_cell_0 13 rfl rfl)
theorem dX0_cell_14 : decode cX0_cell 14 = .ok (.iaload, 1) := dk_46 (dk_at dksX0_cell_0 14 rfl rfl)
theorem dX0_cell_15 : decode cX0_cell 15 = .ok (.goto 4, 3) := dk_167 0 4 (dk_at dksX0_cell_0 15 rfl rfl)
theorem dX0_cell_18 : decode cX0_cell 18 = .ok (.iconst 0, 1) := dk_3 (dk_at dksX0_cell_0 18 rfl rfl)
theorem dX0_cell_19 : decode cX0_cell 19 = .ok (.ireturn, 1) := dk_172 (dk_at dksX0_cell_0 19 rfl rfl)
abbrev cX0_bare : ByteArray := method_3_code
def yX0_bare : MethodName := ⟨RX0, "bare", "(I)I"⟩
def dkwX0_bare_0 : List UInt8 := [26, 18, 9, 126, 172]
abbrev dktX0_bare_0 : List UInt8 := dkwX0_bare_0 ++ []
theorem dksX0_bare_0 : cX0_bare.data.toList.drop 0 = dktX0_bare_0 := by decide +kernel
theorem dX0_bare_0 : decode cX0_bare 0 = .ok (.iload_n 0, 1) := dk_26 (dk_at dksX0_bare_0 0 rfl rfl)
theorem dX0_bare_1 : decode cX0_bare 1 = .ok (.ldc 9, 2) := dk_18 9 (dk_at dksX0_bare_0 1 rfl rfl)
theorem dX0_bare_3 : decode cX0_bare 3 = .ok (.iand, 1) := dk_126 (dk_at dksX0_bare_0 3 rfl rfl)
theorem dX0_bare_4 : decode cX0_bare 4 = .ok (.ireturn, 1) := dk_172 (dk_at dksX0_bare_0 4 rfl rfl)
abbrev cX0_sign : ByteArray := method_4_code
def yX0_sign : MethodName := ⟨RX0, "sign", "(I)I"⟩
def dkwX0_sign_0 : List UInt8 := [16, 32, 26, 184, 0, 10, 16, 95, 112, 96, 172]
abbrev dktX0_sign_0 : List UInt8 := dkwX0_sign_0 ++ []
theorem dksX0_sign_0 : cX0_sign.data.toList.drop 0 = dktX0_sign_0 := by decide +kernel
theorem dX0_sign_0 : decode cX0_sign 0 = .ok (.bipush 32, 2) := dk_16 32 (dk_at dksX0_sign_0 0 rfl rfl)
theorem dX0_sign_2 : decode cX0_sign 2 = .ok (.iload_n 0, 1) := dk_26 (dk_at dksX0_sign_0 2 rfl rfl)
theorem dX0_sign_3 : decode cX0_sign 3 = .ok (.invokestatic 10, 3) := dk_184 0 10 (dk_at dksX0_sign_0 3 rfl rfl)
theorem dX0_sign_6 : decode cX0_sign 6 = .ok (.bipush 95, 2) := dk_16 95 (dk_at dksX0_sign_0 6 rfl rfl)
theorem dX0_sign_8 : decode cX0_sign 8 = .ok (.irem, 1) := dk_112 (dk_at dksX0_sign_0 8 rfl rfl)
theorem dX0_sign_9 : decode cX0_sign 9 = .ok (.iadd, 1) := dk_96 (dk_at dksX0_sign_0 9 rfl rfl)
theorem dX0_sign_10 : decode cX0_sign 10 = .ok (.ireturn, 1) := dk_172 (dk_at dksX0_sign_0 10 rfl rfl)
abbrev cX0_more : ByteArray := method_5_code
def yX0_more : MethodName := ⟨RX0, "more", "([II)[I"⟩
def dkwX0_more_1 : List UInt8 := [167, 255, 241, 44, 42, 190, 27, 79, 44, 176]
abbrev dktX0_more_1 : List UInt8 := dkwX0_more_1 ++ []
def dkwX0_more_0 : List UInt8 := [42, 190, 4, 96, 188, 10, 77, 3, 62, 29, 42, 190, 162, 0, 15, 44, 29, 42, 29, 46, 79, 132, 3, 1]
abbrev dktX0_more_0 : List UInt8 := dkwX0_more_0 ++ dktX0_more_1
theorem dksX0_more_0 : cX0_more.data.toList.drop 0 = dktX0_more_0 := by decide +kernel
theorem dksX0_more_1 : cX0_more.data.toList.drop 24 = dktX0_more_1 := dk_seg dksX0_more_0 24 rfl rfl
theorem dX0_more_0 : decode cX0_more 0 = .ok (.aload_n 0, 1) := dk_42 (dk_at dksX0_more_0 0 rfl rfl)
theorem dX0_more_1 : decode cX0_more 1 = .ok (.arraylength, 1) := dk_190 (dk_at dksX0_more_0 1 rfl rfl)
theorem dX0_more_2 : decode cX0_more 2 = .ok (.iconst 1, 1) := dk_4 (dk_at dksX0_more_0 2 rfl rfl)
theorem dX0_more_3 : decode cX0_more 3 = .ok (.iadd, 1) := dk_96 (dk_at dksX0_more_0 3 rfl rfl)
theorem dX0_more_4 : decode cX0_more 4 = .ok (.newarray .int, 2) := dk_188_10 (dk_at dksX0_more_0 4 rfl rfl)
theorem dX0_more_6 : decode cX0_more 6 = .ok (.astore_n 2, 1) := dk_77 (dk_at dksX0_more_0 6 rfl rfl)
theorem dX0_more_7 : decode cX0_more 7 = .ok (.iconst 0, 1) := dk_3 (dk_at dksX0_more_0 7 rfl rfl)
theorem dX0_more_8 : decode cX0_more 8 = .ok (.istore_n 3, 1) := dk_62 (dk_at dksX0_more_0 8 rfl rfl)
theorem dX0_more_9 : decode cX0_more 9 = .ok (.iload_n 3, 1) := dk_29 (dk_at dksX0_more_0 9 rfl rfl)
theorem dX0_more_10 : decode cX0_more 10 = .ok (.aload_n 0, 1) := dk_42 (dk_at dksX0_more_0 10 rfl rfl)
theorem dX0_more_11 : decode cX0_more 11 = .ok (.arraylength, 1) := dk_190 (dk_at dksX0_more_0 11 rfl rfl)
theorem dX0_more_12 : decode cX0_more 12 = .ok (.if_icmp .ge 15, 3) := dk_162 0 15 (dk_at dksX0_more_0 12 rfl rfl)
theorem dX0_more_15 : decode cX0_more 15 = .ok (.aload_n 2, 1) := dk_44 (dk_at dksX0_more_0 15 rfl rfl)
theorem dX0_more_16 : decode cX0_more 16 = .ok (.iload_n 3, 1) := dk_29 (dk_at dksX0_more_0 16 rfl rfl)
theorem dX0_more_17 : decode cX0_more 17 = .ok (.aload_n 0, 1) := dk_42 (dk_at dksX0_more_0 17 rfl rfl)
theorem dX0_more_18 : decode cX0_more 18 = .ok (.iload_n 3, 1) := dk_29 (dk_at dksX0_more_0 18 rfl rfl)
theorem dX0_more_19 : decode cX0_more 19 = .ok (.iaload, 1) := dk_46 (dk_at dksX0_more_0 19 rfl rfl)
theorem dX0_more_20 : decode cX0_more 20 = .ok (.iastore, 1) := dk_79 (dk_at dksX0_more_0 20 rfl rfl)
theorem dX0_more_21 : decode cX0_more 21 = .ok (.iinc 3 1, 3) := dk_132 3 1 (dk_at dksX0_more_0 21 rfl rfl)
theorem dX0_more_24 : decode cX0_more 24 = .ok (.goto (-15), 3) := dk_167 255 241 (dk_at dksX0_more_1 0 rfl rfl)
theorem dX0_more_27 : decode cX0_more 27 = .ok (.aload_n 2, 1) := dk_44 (dk_at dksX0_more_1 3 rfl rfl)
theorem dX0_more_28 : decode cX0_more 28 = .ok (.aload_n 0, 1) := dk_42 (dk_at dksX0_more_1 4 rfl rfl)
theorem dX0_more_29 : decode cX0_more 29 = .ok (.arraylength, 1) := dk_190 (dk_at dksX0_more_1 5 rfl rfl)
theorem dX0_more_30 : decode cX0_more 30 = .ok (.iload_n 1, 1) := dk_27 (dk_at dksX0_more_1 6 rfl rfl)
theorem dX0_more_31 : decode cX0_more 31 = .ok (.iastore, 1) := dk_79 (dk_at dksX0_more_1 7 rfl rfl)
theorem dX0_more_32 : decode cX0_more 32 = .ok (.aload_n 2, 1) := dk_44 (dk_at dksX0_more_1 8 rfl rfl)
theorem dX0_more_33 : decode cX0_more 33 = .ok (.areturn, 1) := dk_176 (dk_at dksX0_more_1 9 rfl rfl)
abbrev cX0_padded : ByteArray := method_6_code
def yX0_padded : MethodName := ⟨RX0, "padded", "([IIIZ)[I"⟩
def dkwX0_padded_3 : List UInt8 := [162, 0, 10, 42, 21, 6, 46, 167, 0, 4, 28, 79, 132, 6, 1, 167, 255, 200, 25, 5, 176]
abbrev dktX0_padded_3 : List UInt8 := dkwX0_padded_3 ++ []
def dkwX0_padded_2 : List UInt8 := [21, 4, 162, 0, 7, 28, 167, 0, 28, 42, 21, 6, 21, 4, 100, 46, 167, 0, 18, 21, 6, 42, 190]
abbrev dktX0_padded_2 : List UInt8 := dkwX0_padded_2 ++ dktX0_padded_3
def dkwX0_padded_1 : List UInt8 := [58, 5, 3, 54, 6, 21, 6, 25, 5, 190, 162, 0, 54, 25, 5, 21, 6, 29, 153, 0, 24, 21, 6]
abbrev dktX0_padded_1 : List UInt8 := dkwX0_padded_1 ++ dktX0_padded_2
def dkwX0_padded_0 : List UInt8 := [27, 42, 190, 164, 0, 10, 27, 42, 190, 100, 167, 0, 4, 3, 54, 4, 42, 190, 21, 4, 96, 188, 10]
abbrev dktX0_padded_0 : List UInt8 := dkwX0_padded_0 ++ dktX0_padded_1
theorem dksX0_padded_0 : cX0_padded.data.toList.drop 0 = dktX0_padded_0 := by decide +kernel
theorem dksX0_padded_1 : cX0_padded.data.toList.drop 23 = dktX0_padded_1 := dk_seg dksX0_padded_0 23 rfl rfl
theorem dksX0_padded_2 : cX0_padded.data.toList.drop 46 = dktX0_padded_2 := dk_seg dksX0_padded_1 23 rfl rfl
theorem dksX0_padded_3 : cX0_padded.data.toList.drop 69 = dktX0_padded_3 := dk_seg dksX0_padded_2 23 rfl rfl
theorem dX0_padded_0 : decode cX0_padded 0 = .ok (.iload_n 1, 1) := dk_27 (dk_at dksX0_padded_0 0 rfl rfl)
theorem dX0_padded_1 : decode cX0_padded 1 = .ok (.aload_n 0, 1) := dk_42 (dk_at dksX0_padded_0 1 rfl rfl)
theorem dX0_padded_2 : decode cX0_padded 2 = .ok (.arraylength, 1) := dk_190 (dk_at dksX0_padded_0 2 rfl rfl)
theorem dX0_padded_3 : decode cX0_padded 3 = .ok (.if_icmp .le 10, 3) := dk_164 0 10 (dk_at dksX0_padded_0 3 rfl rfl)
theorem dX0_padded_6 : decode cX0_padded 6 = .ok (.iload_n 1, 1) := dk_27 (dk_at dksX0_padded_0 6 rfl rfl)
theorem dX0_padded_7 : decode cX0_padded 7 = .ok (.aload_n 0, 1) := dk_42 (dk_at dksX0_padded_0 7 rfl rfl)
theorem dX0_padded_8 : decode cX0_padded 8 = .ok (.arraylength, 1) := dk_190 (dk_at dksX0_padded_0 8 rfl rfl)
theorem dX0_padded_9 : decode cX0_padded 9 = .ok (.isub, 1) := dk_100 (dk_at dksX0_padded_0 9 rfl rfl)
theorem dX0_padded_10 : decode cX0_padded 10 = .ok (.goto 4, 3) := dk_167 0 4 (dk_at dksX0_padded_0 10 rfl rfl)
theorem dX0_padded_13 : decode cX0_padded 13 = .ok (.iconst 0, 1) := dk_3 (dk_at dksX0_padded_0 13 rfl rfl)
theorem dX0_padded_14 : decode cX0_padded 14 = .ok (.istore 4, 2) := dk_54 4 (dk_at dksX0_padded_0 14 rfl rfl)
theorem dX0_padded_16 : decode cX0_padded 16 = .ok (.aload_n 0, 1) := dk_42 (dk_at dksX0_padded_0 16 rfl rfl)
theorem dX0_padded_17 : decode cX0_padded 17 = .ok (.arraylength, 1) := dk_190 (dk_at dksX0_padded_0 17 rfl rfl)
theorem dX0_padded_18 : decode cX0_padded 18 = .ok (.iload 4, 2) := dk_21 4 (dk_at dksX0_padded_0 18 rfl rfl)
theorem dX0_padded_20 : decode cX0_padded 20 = .ok (.iadd, 1) := dk_96 (dk_at dksX0_padded_0 20 rfl rfl)
theorem dX0_padded_21 : decode cX0_padded 21 = .ok (.newarray .int, 2) := dk_188_10 (dk_at dksX0_padded_0 21 rfl rfl)
theorem dX0_padded_23 : decode cX0_padded 23 = .ok (.astore 5, 2) := dk_58 5 (dk_at dksX0_padded_1 0 rfl rfl)
theorem dX0_padded_25 : decode cX0_padded 25 = .ok (.iconst 0, 1) := dk_3 (dk_at dksX0_padded_1 2 rfl rfl)
theorem dX0_padded_26 : decode cX0_padded 26 = .ok (.istore 6, 2) := dk_54 6 (dk_at dksX0_padded_1 3 rfl rfl)
theorem dX0_padded_28 : decode cX0_padded 28 = .ok (.iload 6, 2) := dk_21 6 (dk_at dksX0_padded_1 5 rfl rfl)
theorem dX0_padded_30 : decode cX0_padded 30 = .ok (.aload 5, 2) := dk_25 5 (dk_at dksX0_padded_1 7 rfl rfl)
theorem dX0_padded_32 : decode cX0_padded 32 = .ok (.arraylength, 1) := dk_190 (dk_at dksX0_padded_1 9 rfl rfl)
theorem dX0_padded_33 : decode cX0_padded 33 = .ok (.if_icmp .ge 54, 3) := dk_162 0 54 (dk_at dksX0_padded_1 10 rfl rfl)
theorem dX0_padded_36 : decode cX0_padded 36 = .ok (.aload 5, 2) := dk_25 5 (dk_at dksX0_padded_1 13 rfl rfl)
theorem dX0_padded_38 : decode cX0_padded 38 = .ok (.iload 6, 2) := dk_21 6 (dk_at dksX0_padded_1 15 rfl rfl)
theorem dX0_padded_40 : decode cX0_padded 40 = .ok (.iload_n 3, 1) := dk_29 (dk_at dksX0_padded_1 17 rfl rfl)
theorem dX0_padded_41 : decode cX0_padded 41 = .ok (.ifCond .eq 24, 3) := dk_153 0 24 (dk_at dksX0_padded_1 18 rfl rfl)
theorem dX0_padded_44 : decode cX0_padded 44 = .ok (.iload 6, 2) := dk_21 6 (dk_at dksX0_padded_1 21 rfl rfl)
theorem dX0_padded_46 : decode cX0_padded 46 = .ok (.iload 4, 2) := dk_21 4 (dk_at dksX0_padded_2 0 rfl rfl)
theorem dX0_padded_48 : decode cX0_padded 48 = .ok (.if_icmp .ge 7, 3) := dk_162 0 7 (dk_at dksX0_padded_2 2 rfl rfl)
theorem dX0_padded_51 : decode cX0_padded 51 = .ok (.iload_n 2, 1) := dk_28 (dk_at dksX0_padded_2 5 rfl rfl)
theorem dX0_padded_52 : decode cX0_padded 52 = .ok (.goto 28, 3) := dk_167 0 28 (dk_at dksX0_padded_2 6 rfl rfl)
theorem dX0_padded_55 : decode cX0_padded 55 = .ok (.aload_n 0, 1) := dk_42 (dk_at dksX0_padded_2 9 rfl rfl)
theorem dX0_padded_56 : decode cX0_padded 56 = .ok (.iload 6, 2) := dk_21 6 (dk_at dksX0_padded_2 10 rfl rfl)
theorem dX0_padded_58 : decode cX0_padded 58 = .ok (.iload 4, 2) := dk_21 4 (dk_at dksX0_padded_2 12 rfl rfl)
theorem dX0_padded_60 : decode cX0_padded 60 = .ok (.isub, 1) := dk_100 (dk_at dksX0_padded_2 14 rfl rfl)
theorem dX0_padded_61 : decode cX0_padded 61 = .ok (.iaload, 1) := dk_46 (dk_at dksX0_padded_2 15 rfl rfl)
theorem dX0_padded_62 : decode cX0_padded 62 = .ok (.goto 18, 3) := dk_167 0 18 (dk_at dksX0_padded_2 16 rfl rfl)
theorem dX0_padded_65 : decode cX0_padded 65 = .ok (.iload 6, 2) := dk_21 6 (dk_at dksX0_padded_2 19 rfl rfl)
theorem dX0_padded_67 : decode cX0_padded 67 = .ok (.aload_n 0, 1) := dk_42 (dk_at dksX0_padded_2 21 rfl rfl)
theorem dX0_padded_68 : decode cX0_padded 68 = .ok (.arraylength, 1) := dk_190 (dk_at dksX0_padded_2 22 rfl rfl)
theorem dX0_padded_69 : decode cX0_padded 69 = .ok (.if_icmp .ge 10, 3) := dk_162 0 10 (dk_at dksX0_padded_3 0 rfl rfl)
theorem dX0_padded_72 : decode cX0_padded 72 = .ok (.aload_n 0, 1) := dk_42 (dk_at dksX0_padded_3 3 rfl rfl)
theorem dX0_padded_73 : decode cX0_padded 73 = .ok (.iload 6, 2) := dk_21 6 (dk_at dksX0_padded_3 4 rfl rfl)
theorem dX0_padded_75 : decode cX0_padded 75 = .ok (.iaload, 1) := dk_46 (dk_at dksX0_padded_3 6 rfl rfl)
theorem dX0_padded_76 : decode cX0_padded 76 = .ok (.goto 4, 3) := dk_167 0 4 (dk_at dksX0_padded_3 7 rfl rfl)
theorem dX0_padded_79 : decode cX0_padded 79 = .ok (.iload_n 2, 1) := dk_28 (dk_at dksX0_padded_3 10 rfl rfl)
theorem dX0_padded_80 : decode cX0_padded 80 = .ok (.iastore, 1) := dk_79 (dk_at dksX0_padded_3 11 rfl rfl)
theorem dX0_padded_81 : decode cX0_padded 81 = .ok (.iinc 6 1, 3) := dk_132 6 1 (dk_at dksX0_padded_3 12 rfl rfl)
theorem dX0_padded_84 : decode cX0_padded 84 = .ok (.goto (-56), 3) := dk_167 255 200 (dk_at dksX0_padded_3 15 rfl rfl)
theorem dX0_padded_87 : decode cX0_padded 87 = .ok (.aload 5, 2) := dk_25 5 (dk_at dksX0_padded_3 18 rfl rfl)
theorem dX0_padded_89 : decode cX0_padded 89 = .ok (.areturn, 1) := dk_176 (dk_at dksX0_padded_3 20 rfl rfl)
abbrev cX0_cased : ByteArray := method_9_code
def yX0_cased : MethodName := ⟨RX0, "cased", "([IZ)[I"⟩
def dkwX0_cased_1 : List UInt8 := [184, 0, 14, 167, 0, 9, 42, 29, 46, 184, 0, 17, 79, 132, 3, 1, 167, 255, 225, 44, 176]
abbrev dktX0_cased_1 : List UInt8 := dkwX0_cased_1 ++ []
def dkwX0_cased_0 : List UInt8 := [42, 190, 188, 10, 77, 3, 62, 29, 44, 190, 162, 0, 31, 44, 29, 27, 153, 0, 12, 42, 29, 46]
abbrev dktX0_cased_0 : List UInt8 := dkwX0_cased_0 ++ dktX0_cased_1
theorem dksX0_cased_0 : cX0_cased.data.toList.drop 0 = dktX0_cased_0 := by decide +kernel
theorem dksX0_cased_1 : cX0_cased.data.toList.drop 22 = dktX0_cased_1 := dk_seg dksX0_cased_0 22 rfl rfl
theorem dX0_cased_0 : decode cX0_cased 0 = .ok (.aload_n 0, 1) := dk_42 (dk_at dksX0_cased_0 0 rfl rfl)
theorem dX0_cased_1 : decode cX0_cased 1 = .ok (.arraylength, 1) := dk_190 (dk_at dksX0_cased_0 1 rfl rfl)
theorem dX0_cased_2 : decode cX0_cased 2 = .ok (.newarray .int, 2) := dk_188_10 (dk_at dksX0_cased_0 2 rfl rfl)
theorem dX0_cased_4 : decode cX0_cased 4 = .ok (.astore_n 2, 1) := dk_77 (dk_at dksX0_cased_0 4 rfl rfl)
theorem dX0_cased_5 : decode cX0_cased 5 = .ok (.iconst 0, 1) := dk_3 (dk_at dksX0_cased_0 5 rfl rfl)
theorem dX0_cased_6 : decode cX0_cased 6 = .ok (.istore_n 3, 1) := dk_62 (dk_at dksX0_cased_0 6 rfl rfl)
theorem dX0_cased_7 : decode cX0_cased 7 = .ok (.iload_n 3, 1) := dk_29 (dk_at dksX0_cased_0 7 rfl rfl)
theorem dX0_cased_8 : decode cX0_cased 8 = .ok (.aload_n 2, 1) := dk_44 (dk_at dksX0_cased_0 8 rfl rfl)
theorem dX0_cased_9 : decode cX0_cased 9 = .ok (.arraylength, 1) := dk_190 (dk_at dksX0_cased_0 9 rfl rfl)
theorem dX0_cased_10 : decode cX0_cased 10 = .ok (.if_icmp .ge 31, 3) := dk_162 0 31 (dk_at dksX0_cased_0 10 rfl rfl)
theorem dX0_cased_13 : decode cX0_cased 13 = .ok (.aload_n 2, 1) := dk_44 (dk_at dksX0_cased_0 13 rfl rfl)
theorem dX0_cased_14 : decode cX0_cased 14 = .ok (.iload_n 3, 1) := dk_29 (dk_at dksX0_cased_0 14 rfl rfl)
theorem dX0_cased_15 : decode cX0_cased 15 = .ok (.iload_n 1, 1) := dk_27 (dk_at dksX0_cased_0 15 rfl rfl)
theorem dX0_cased_16 : decode cX0_cased 16 = .ok (.ifCond .eq 12, 3) := dk_153 0 12 (dk_at dksX0_cased_0 16 rfl rfl)
theorem dX0_cased_19 : decode cX0_cased 19 = .ok (.aload_n 0, 1) := dk_42 (dk_at dksX0_cased_0 19 rfl rfl)
theorem dX0_cased_20 : decode cX0_cased 20 = .ok (.iload_n 3, 1) := dk_29 (dk_at dksX0_cased_0 20 rfl rfl)
theorem dX0_cased_21 : decode cX0_cased 21 = .ok (.iaload, 1) := dk_46 (dk_at dksX0_cased_0 21 rfl rfl)
theorem dX0_cased_22 : decode cX0_cased 22 = .ok (.invokestatic 14, 3) := dk_184 0 14 (dk_at dksX0_cased_1 0 rfl rfl)
theorem dX0_cased_25 : decode cX0_cased 25 = .ok (.goto 9, 3) := dk_167 0 9 (dk_at dksX0_cased_1 3 rfl rfl)
theorem dX0_cased_28 : decode cX0_cased 28 = .ok (.aload_n 0, 1) := dk_42 (dk_at dksX0_cased_1 6 rfl rfl)
theorem dX0_cased_29 : decode cX0_cased 29 = .ok (.iload_n 3, 1) := dk_29 (dk_at dksX0_cased_1 7 rfl rfl)
theorem dX0_cased_30 : decode cX0_cased 30 = .ok (.iaload, 1) := dk_46 (dk_at dksX0_cased_1 8 rfl rfl)
theorem dX0_cased_31 : decode cX0_cased 31 = .ok (.invokestatic 17, 3) := dk_184 0 17 (dk_at dksX0_cased_1 9 rfl rfl)
theorem dX0_cased_34 : decode cX0_cased 34 = .ok (.iastore, 1) := dk_79 (dk_at dksX0_cased_1 12 rfl rfl)
theorem dX0_cased_35 : decode cX0_cased 35 = .ok (.iinc 3 1, 3) := dk_132 3 1 (dk_at dksX0_cased_1 13 rfl rfl)
theorem dX0_cased_38 : decode cX0_cased 38 = .ok (.goto (-31), 3) := dk_167 255 225 (dk_at dksX0_cased_1 16 rfl rfl)
theorem dX0_cased_41 : decode cX0_cased 41 = .ok (.aload_n 2, 1) := dk_44 (dk_at dksX0_cased_1 19 rfl rfl)
theorem dX0_cased_42 : decode cX0_cased 42 = .ok (.areturn, 1) := dk_176 (dk_at dksX0_cased_1 20 rfl rfl)
abbrev cX0_upper : ByteArray := method_8_code
def yX0_upper : MethodName := ⟨RX0, "upper", "(I)I"⟩
def dkwX0_upper_0 : List UInt8 := [26, 16, 97, 161, 0, 16, 26, 16, 122, 163, 0, 10, 26, 16, 32, 100, 167, 0, 4, 26, 172]
abbrev dktX0_upper_0 : List UInt8 := dkwX0_upper_0 ++ []
theorem dksX0_upper_0 : cX0_upper.data.toList.drop 0 = dktX0_upper_0 := by decide +kernel
theorem dX0_upper_0 : decode cX0_upper 0 = .ok (.iload_n 0, 1) := dk_26 (dk_at dksX0_upper_0 0 rfl rfl)
theorem dX0_upper_1 : decode cX0_upper 1 = .ok (.bipush 97, 2) := dk_16 97 (dk_at dksX0_upper_0 1 rfl rfl)
theorem dX0_upper_3 : decode cX0_upper 3 = .ok (.if_icmp .lt 16, 3) := dk_161 0 16 (dk_at dksX0_upper_0 3 rfl rfl)
theorem dX0_upper_6 : decode cX0_upper 6 = .ok (.iload_n 0, 1) := dk_26 (dk_at dksX0_upper_0 6 rfl rfl)
theorem dX0_upper_7 : decode cX0_upper 7 = .ok (.bipush 122, 2) := dk_16 122 (dk_at dksX0_upper_0 7 rfl rfl)
theorem dX0_upper_9 : decode cX0_upper 9 = .ok (.if_icmp .gt 10, 3) := dk_163 0 10 (dk_at dksX0_upper_0 9 rfl rfl)
theorem dX0_upper_12 : decode cX0_upper 12 = .ok (.iload_n 0, 1) := dk_26 (dk_at dksX0_upper_0 12 rfl rfl)
theorem dX0_upper_13 : decode cX0_upper 13 = .ok (.bipush 32, 2) := dk_16 32 (dk_at dksX0_upper_0 13 rfl rfl)
theorem dX0_upper_15 : decode cX0_upper 15 = .ok (.isub, 1) := dk_100 (dk_at dksX0_upper_0 15 rfl rfl)
theorem dX0_upper_16 : decode cX0_upper 16 = .ok (.goto 4, 3) := dk_167 0 4 (dk_at dksX0_upper_0 16 rfl rfl)
theorem dX0_upper_19 : decode cX0_upper 19 = .ok (.iload_n 0, 1) := dk_26 (dk_at dksX0_upper_0 19 rfl rfl)
theorem dX0_upper_20 : decode cX0_upper 20 = .ok (.ireturn, 1) := dk_172 (dk_at dksX0_upper_0 20 rfl rfl)
abbrev cX0_lower : ByteArray := method_7_code
def yX0_lower : MethodName := ⟨RX0, "lower", "(I)I"⟩
def dkwX0_lower_0 : List UInt8 := [26, 16, 65, 161, 0, 16, 26, 16, 90, 163, 0, 10, 26, 16, 32, 96, 167, 0, 4, 26, 172]
abbrev dktX0_lower_0 : List UInt8 := dkwX0_lower_0 ++ []
theorem dksX0_lower_0 : cX0_lower.data.toList.drop 0 = dktX0_lower_0 := by decide +kernel
theorem dX0_lower_0 : decode cX0_lower 0 = .ok (.iload_n 0, 1) := dk_26 (dk_at dksX0_lower_0 0 rfl rfl)
theorem dX0_lower_1 : decode cX0_lower 1 = .ok (.bipush 65, 2) := dk_16 65 (dk_at dksX0_lower_0 1 rfl rfl)
theorem dX0_lower_3 : decode cX0_lower 3 = .ok (.if_icmp .lt 16, 3) := dk_161 0 16 (dk_at dksX0_lower_0 3 rfl rfl)
theorem dX0_lower_6 : decode cX0_lower 6 = .ok (.iload_n 0, 1) := dk_26 (dk_at dksX0_lower_0 6 rfl rfl)
theorem dX0_lower_7 : decode cX0_lower 7 = .ok (.bipush 90, 2) := dk_16 90 (dk_at dksX0_lower_0 7 rfl rfl)
theorem dX0_lower_9 : decode cX0_lower 9 = .ok (.if_icmp .gt 10, 3) := dk_163 0 10 (dk_at dksX0_lower_0 9 rfl rfl)
theorem dX0_lower_12 : decode cX0_lower 12 = .ok (.iload_n 0, 1) := dk_26 (dk_at dksX0_lower_0 12 rfl rfl)
theorem dX0_lower_13 : decode cX0_lower 13 = .ok (.bipush 32, 2) := dk_16 32 (dk_at dksX0_lower_0 13 rfl rfl)
theorem dX0_lower_15 : decode cX0_lower 15 = .ok (.iadd, 1) := dk_96 (dk_at dksX0_lower_0 15 rfl rfl)
theorem dX0_lower_16 : decode cX0_lower 16 = .ok (.goto 4, 3) := dk_167 0 4 (dk_at dksX0_lower_0 16 rfl rfl)
theorem dX0_lower_19 : decode cX0_lower 19 = .ok (.iload_n 0, 1) := dk_26 (dk_at dksX0_lower_0 19 rfl rfl)
theorem dX0_lower_20 : decode cX0_lower 20 = .ok (.ireturn, 1) := dk_172 (dk_at dksX0_lower_0 20 rfl rfl)
abbrev cX0_told : ByteArray := method_10_code
def yX0_told : MethodName := ⟨RX0, "told", "(LTextDesk;[I[II)Z"⟩
def dkwX0_told_14 : List UInt8 := [167, 0, 4, 3, 172]
abbrev dktX0_told_14 : List UInt8 := dkwX0_told_14 ++ []
def dkwX0_told_13 : List UInt8 := [153, 0, 22, 42, 16, 254, 29, 182, 0, 36, 43, 29, 184, 0, 10, 43, 190, 112, 46, 160, 0, 7, 4]
abbrev dktX0_told_13 : List UInt8 := dkwX0_told_13 ++ dktX0_told_14
def dkwX0_told_12 : List UInt8 := [21, 8, 182, 0, 36, 44, 21, 8, 46, 159, 0, 5, 3, 172, 132, 8, 1, 167, 255, 230, 43, 190]
abbrev dktX0_told_12 : List UInt8 := dkwX0_told_12 ++ dktX0_told_13
def dkwX0_told_11 : List UInt8 := [159, 0, 5, 3, 172, 132, 8, 1, 167, 255, 230, 3, 54, 8, 21, 8, 44, 190, 162, 0, 25, 42, 4]
abbrev dktX0_told_11 : List UInt8 := dkwX0_told_11 ++ dktX0_told_12
def dkwX0_told_10 : List UInt8 := [3, 172, 3, 54, 8, 21, 8, 43, 190, 162, 0, 25, 42, 3, 21, 8, 182, 0, 36, 43, 21, 8, 46]
abbrev dktX0_told_10 : List UInt8 := dkwX0_told_10 ++ dktX0_told_11
def dkwX0_told_9 : List UInt8 := [3, 29, 182, 0, 36, 2, 160, 0, 18, 44, 190, 154, 0, 15, 42, 4, 29, 182, 0, 36, 2, 159, 0, 5]
abbrev dktX0_told_9 : List UInt8 := dkwX0_told_9 ++ dktX0_told_10
def dkwX0_told_8 : List UInt8 := [182, 0, 33, 43, 190, 160, 0, 43, 42, 2, 182, 0, 33, 44, 190, 160, 0, 33, 43, 190, 154, 0, 13, 42]
abbrev dktX0_told_8 : List UInt8 := dkwX0_told_8 ++ dktX0_told_9
def dkwX0_told_7 : List UInt8 := [29, 182, 0, 33, 29, 4, 126, 154, 0, 8, 43, 190, 167, 0, 5, 44, 190, 159, 0, 5, 3, 172, 42, 3]
abbrev dktX0_told_7 : List UInt8 := dkwX0_told_7 ++ dktX0_told_8
def dkwX0_told_6 : List UInt8 := [21, 5, 160, 0, 42, 42, 182, 0, 26, 21, 6, 160, 0, 33, 42, 182, 0, 29, 21, 7, 160, 0, 24, 42]
abbrev dktX0_told_6 : List UInt8 := dkwX0_told_6 ++ dktX0_told_7
def dkwX0_told_5 : List UInt8 := [46, 184, 0, 17, 160, 0, 7, 4, 167, 0, 4, 3, 54, 7, 132, 8, 1, 167, 255, 217, 42, 182, 0, 20]
abbrev dktX0_told_5 : List UInt8 := dkwX0_told_5 ++ dktX0_told_6
def dkwX0_told_4 : List UInt8 := [54, 8, 21, 7, 153, 0, 40, 21, 8, 43, 190, 162, 0, 33, 43, 21, 8, 46, 184, 0, 17, 44, 21, 8]
abbrev dktX0_told_4 : List UInt8 := dkwX0_told_4 ++ dktX0_told_5
def dkwX0_told_3 : List UInt8 := [160, 0, 9, 132, 6, 1, 167, 255, 225, 43, 190, 44, 190, 160, 0, 7, 4, 167, 0, 4, 3, 54, 7, 3]
abbrev dktX0_told_3 : List UInt8 := dkwX0_told_3 ++ dktX0_told_4
def dkwX0_told_2 : List UInt8 := [21, 4, 162, 0, 30, 43, 43, 190, 4, 100, 21, 6, 100, 46, 44, 44, 190, 4, 100, 21, 6, 100, 46]
abbrev dktX0_told_2 : List UInt8 := dkwX0_told_2 ++ dktX0_told_3
def dkwX0_told_1 : List UInt8 := [21, 4, 162, 0, 20, 43, 21, 5, 46, 44, 21, 5, 46, 160, 0, 9, 132, 5, 1, 167, 255, 235, 21, 6]
abbrev dktX0_told_1 : List UInt8 := dkwX0_told_1 ++ dktX0_told_2
def dkwX0_told_0 : List UInt8 := [43, 190, 44, 190, 162, 0, 8, 43, 190, 167, 0, 5, 44, 190, 54, 4, 3, 54, 5, 3, 54, 6, 21, 5]
abbrev dktX0_told_0 : List UInt8 := dkwX0_told_0 ++ dktX0_told_1
theorem dksX0_told_0 : cX0_told.data.toList.drop 0 = dktX0_told_0 := by decide +kernel
theorem dksX0_told_1 : cX0_told.data.toList.drop 24 = dktX0_told_1 := dk_seg dksX0_told_0 24 rfl rfl
theorem dksX0_told_2 : cX0_told.data.toList.drop 48 = dktX0_told_2 := dk_seg dksX0_told_1 24 rfl rfl
theorem dksX0_told_3 : cX0_told.data.toList.drop 71 = dktX0_told_3 := dk_seg dksX0_told_2 23 rfl rfl
theorem dksX0_told_4 : cX0_told.data.toList.drop 95 = dktX0_told_4 := dk_seg dksX0_told_3 24 rfl rfl
theorem dksX0_told_5 : cX0_told.data.toList.drop 119 = dktX0_told_5 := dk_seg dksX0_told_4 24 rfl rfl
theorem dksX0_told_6 : cX0_told.data.toList.drop 143 = dktX0_told_6 := dk_seg dksX0_told_5 24 rfl rfl
theorem dksX0_told_7 : cX0_told.data.toList.drop 167 = dktX0_told_7 := dk_seg dksX0_told_6 24 rfl rfl
theorem dksX0_told_8 : cX0_told.data.toList.drop 191 = dktX0_told_8 := dk_seg dksX0_told_7 24 rfl rfl
theorem dksX0_told_9 : cX0_told.data.toList.drop 215 = dktX0_told_9 := dk_seg dksX0_told_8 24 rfl rfl
theorem dksX0_told_10 : cX0_told.data.toList.drop 239 = dktX0_told_10 := dk_seg dksX0_told_9 24 rfl rfl
theorem dksX0_told_11 : cX0_told.data.toList.drop 262 = dktX0_told_11 := dk_seg dksX0_told_10 23 rfl rfl
theorem dksX0_told_12 : cX0_told.data.toList.drop 285 = dktX0_told_12 := dk_seg dksX0_told_11 23 rfl rfl
theorem dksX0_told_13 : cX0_told.data.toList.drop 307 = dktX0_told_13 := dk_seg dksX0_told_12 22 rfl rfl
theorem dksX0_told_14 : cX0_told.data.toList.drop 330 = dktX0_told_14 := dk_seg dksX0_told_13 23 rfl rfl
theorem dX0_told_0 : decode cX0_told 0 = .ok (.aload_n 1, 1) := dk_43 (dk_at dksX0_told_0 0 rfl rfl)
theorem dX0_told_1 : decode cX0_told 1 = .ok (.arraylength, 1) := dk_190 (dk_at dksX0_told_0 1 rfl rfl)
theorem dX0_told_2 : decode cX0_told 2 = .ok (.aload_n 2, 1) := dk_44 (dk_at dksX0_told_0 2 rfl rfl)
theorem dX0_told_3 : decode cX0_told 3 = .ok (.arraylength, 1) := dk_190 (dk_at dksX0_told_0 3 rfl rfl)
theorem dX0_told_4 : decode cX0_told 4 = .ok (.if_icmp .ge 8, 3) := dk_162 0 8 (dk_at dksX0_told_0 4 rfl rfl)
theorem dX0_told_7 : decode cX0_told 7 = .ok (.aload_n 1, 1) := dk_43 (dk_at dksX0_told_0 7 rfl rfl)
theorem dX0_told_8 : decode cX0_told 8 = .ok (.arraylength, 1) := dk_190 (dk_at dksX0_told_0 8 rfl rfl)
theorem dX0_told_9 : decode cX0_told 9 = .ok (.goto 5, 3) := dk_167 0 5 (dk_at dksX0_told_0 9 rfl rfl)
theorem dX0_told_12 : decode cX0_told 12 = .ok (.aload_n 2, 1) := dk_44 (dk_at dksX0_told_0 12 rfl rfl)
theorem dX0_told_13 : decode cX0_told 13 = .ok (.arraylength, 1) := dk_190 (dk_at dksX0_told_0 13 rfl rfl)
theorem dX0_told_14 : decode cX0_told 14 = .ok (.istore 4, 2) := dk_54 4 (dk_at dksX0_told_0 14 rfl rfl)
theorem dX0_told_16 : decode cX0_told 16 = .ok (.iconst 0, 1) := dk_3 (dk_at dksX0_told_0 16 rfl rfl)
theorem dX0_told_17 : decode cX0_told 17 = .ok (.istore 5, 2) := dk_54 5 (dk_at dksX0_told_0 17 rfl rfl)
theorem dX0_told_19 : decode cX0_told 19 = .ok (.iconst 0, 1) := dk_3 (dk_at dksX0_told_0 19 rfl rfl)
theorem dX0_told_20 : decode cX0_told 20 = .ok (.istore 6, 2) := dk_54 6 (dk_at dksX0_told_0 20 rfl rfl)
theorem dX0_told_22 : decode cX0_told 22 = .ok (.iload 5, 2) := dk_21 5 (dk_at dksX0_told_0 22 rfl rfl)
theorem dX0_told_24 : decode cX0_told 24 = .ok (.iload 4, 2) := dk_21 4 (dk_at dksX0_told_1 0 rfl rfl)
theorem dX0_told_26 : decode cX0_told 26 = .ok (.if_icmp .ge 20, 3) := dk_162 0 20 (dk_at dksX0_told_1 2 rfl rfl)
theorem dX0_told_29 : decode cX0_told 29 = .ok (.aload_n 1, 1) := dk_43 (dk_at dksX0_told_1 5 rfl rfl)
theorem dX0_told_30 : decode cX0_told 30 = .ok (.iload 5, 2) := dk_21 5 (dk_at dksX0_told_1 6 rfl rfl)
theorem dX0_told_32 : decode cX0_told 32 = .ok (.iaload, 1) := dk_46 (dk_at dksX0_told_1 8 rfl rfl)
theorem dX0_told_33 : decode cX0_told 33 = .ok (.aload_n 2, 1) := dk_44 (dk_at dksX0_told_1 9 rfl rfl)
theorem dX0_told_34 : decode cX0_told 34 = .ok (.iload 5, 2) := dk_21 5 (dk_at dksX0_told_1 10 rfl rfl)
theorem dX0_told_36 : decode cX0_told 36 = .ok (.iaload, 1) := dk_46 (dk_at dksX0_told_1 12 rfl rfl)
theorem dX0_told_37 : decode cX0_told 37 = .ok (.if_icmp .ne 9, 3) := dk_160 0 9 (dk_at dksX0_told_1 13 rfl rfl)
theorem dX0_told_40 : decode cX0_told 40 = .ok (.iinc 5 1, 3) := dk_132 5 1 (dk_at dksX0_told_1 16 rfl rfl)
theorem dX0_told_43 : decode cX0_told 43 = .ok (.goto (-21), 3) := dk_167 255 235 (dk_at dksX0_told_1 19 rfl rfl)
theorem dX0_told_46 : decode cX0_told 46 = .ok (.iload 6, 2) := dk_21 6 (dk_at dksX0_told_1 22 rfl rfl)
theorem dX0_told_48 : decode cX0_told 48 = .ok (.iload 4, 2) := dk_21 4 (dk_at dksX0_told_2 0 rfl rfl)
theorem dX0_told_50 : decode cX0_told 50 = .ok (.if_icmp .ge 30, 3) := dk_162 0 30 (dk_at dksX0_told_2 2 rfl rfl)
theorem dX0_told_53 : decode cX0_told 53 = .ok (.aload_n 1, 1) := dk_43 (dk_at dksX0_told_2 5 rfl rfl)
theorem dX0_told_54 : decode cX0_told 54 = .ok (.aload_n 1, 1) := dk_43 (dk_at dksX0_told_2 6 rfl rfl)
theorem dX0_told_55 : decode cX0_told 55 = .ok (.arraylength, 1) := dk_190 (dk_at dksX0_told_2 7 rfl rfl)
theorem dX0_told_56 : decode cX0_told 56 = .ok (.iconst 1, 1) := dk_4 (dk_at dksX0_told_2 8 rfl rfl)
theorem dX0_told_57 : decode cX0_told 57 = .ok (.isub, 1) := dk_100 (dk_at dksX0_told_2 9 rfl rfl)
theorem dX0_told_58 : decode cX0_told 58 = .ok (.iload 6, 2) := dk_21 6 (dk_at dksX0_told_2 10 rfl rfl)
theorem dX0_told_60 : decode cX0_told 60 = .ok (.isub, 1) := dk_100 (dk_at dksX0_told_2 12 rfl rfl)
theorem dX0_told_61 : decode cX0_told 61 = .ok (.iaload, 1) := dk_46 (dk_at dksX0_told_2 13 rfl rfl)
theorem dX0_told_62 : decode cX0_told 62 = .ok (.aload_n 2, 1) := dk_44 (dk_at dksX0_told_2 14 rfl rfl)
theorem dX0_told_63 : decode cX0_told 63 = .ok (.aload_n 2, 1) := dk_44 (dk_at dksX0_told_2 15 rfl rfl)
theorem dX0_told_64 : decode cX0_told 64 = .ok (.arraylength, 1) := dk_190 (dk_at dksX0_told_2 16 rfl rfl)
theorem dX0_told_65 : decode cX0_told 65 = .ok (.iconst 1, 1) := dk_4 (dk_at dksX0_told_2 17 rfl rfl)
theorem dX0_told_66 : decode cX0_told 66 = .ok (.isub, 1) := dk_100 (dk_at dksX0_told_2 18 rfl rfl)
theorem dX0_told_67 : decode cX0_told 67 = .ok (.iload 6, 2) := dk_21 6 (dk_at dksX0_told_2 19 rfl rfl)
theorem dX0_told_69 : decode cX0_told 69 = .ok (.isub, 1) := dk_100 (dk_at dksX0_told_2 21 rfl rfl)
theorem dX0_told_70 : decode cX0_told 70 = .ok (.iaload, 1) := dk_46 (dk_at dksX0_told_2 22 rfl rfl)
theorem dX0_told_71 : decode cX0_told 71 = .ok (.if_icmp .ne 9, 3) := dk_160 0 9 (dk_at dksX0_told_3 0 rfl rfl)
theorem dX0_told_74 : decode cX0_told 74 = .ok (.iinc 6 1, 3) := dk_132 6 1 (dk_at dksX0_told_3 3 rfl rfl)
theorem dX0_told_77 : decode cX0_told 77 = .ok (.goto (-31), 3) := dk_167 255 225 (dk_at dksX0_told_3 6 rfl rfl)
theorem dX0_told_80 : decode cX0_told 80 = .ok (.aload_n 1, 1) := dk_43 (dk_at dksX0_told_3 9 rfl rfl)
theorem dX0_told_81 : decode cX0_told 81 = .ok (.arraylength, 1) := dk_190 (dk_at dksX0_told_3 10 rfl rfl)
theorem dX0_told_82 : decode cX0_told 82 = .ok (.aload_n 2, 1) := dk_44 (dk_at dksX0_told_3 11 rfl rfl)
theorem dX0_told_83 : decode cX0_told 83 = .ok (.arraylength, 1) := dk_190 (dk_at dksX0_told_3 12 rfl rfl)
theorem dX0_told_84 : decode cX0_told 84 = .ok (.if_icmp .ne 7, 3) := dk_160 0 7 (dk_at dksX0_told_3 13 rfl rfl)
theorem dX0_told_87 : decode cX0_told 87 = .ok (.iconst 1, 1) := dk_4 (dk_at dksX0_told_3 16 rfl rfl)
theorem dX0_told_88 : decode cX0_told 88 = .ok (.goto 4, 3) := dk_167 0 4 (dk_at dksX0_told_3 17 rfl rfl)
theorem dX0_told_91 : decode cX0_told 91 = .ok (.iconst 0, 1) := dk_3 (dk_at dksX0_told_3 20 rfl rfl)
theorem dX0_told_92 : decode cX0_told 92 = .ok (.istore 7, 2) := dk_54 7 (dk_at dksX0_told_3 21 rfl rfl)
theorem dX0_told_94 : decode cX0_told 94 = .ok (.iconst 0, 1) := dk_3 (dk_at dksX0_told_3 23 rfl rfl)
theorem dX0_told_95 : decode cX0_told 95 = .ok (.istore 8, 2) := dk_54 8 (dk_at dksX0_told_4 0 rfl rfl)
theorem dX0_told_97 : decode cX0_told 97 = .ok (.iload 7, 2) := dk_21 7 (dk_at dksX0_told_4 2 rfl rfl)
theorem dX0_told_99 : decode cX0_told 99 = .ok (.ifCond .eq 40, 3) := dk_153 0 40 (dk_at dksX0_told_4 4 rfl rfl)
theorem dX0_told_102 : decode cX0_told 102 = .ok (.iload 8, 2) := dk_21 8 (dk_at dksX0_told_4 7 rfl rfl)
theorem dX0_told_104 : decode cX0_told 104 = .ok (.aload_n 1, 1) := dk_43 (dk_at dksX0_told_4 9 rfl rfl)
theorem dX0_told_105 : decode cX0_told 105 = .ok (.arraylength, 1) := dk_190 (dk_at dksX0_told_4 10 rfl rfl)
theorem dX0_told_106 : decode cX0_told 106 = .ok (.if_icmp .ge 33, 3) := dk_162 0 33 (dk_at dksX0_told_4 11 rfl rfl)
theorem dX0_told_109 : decode cX0_told 109 = .ok (.aload_n 1, 1) := dk_43 (dk_at dksX0_told_4 14 rfl rfl)
theorem dX0_told_110 : decode cX0_told 110 = .ok (.iload 8, 2) := dk_21 8 (dk_at dksX0_told_4 15 rfl rfl)
theorem dX0_told_112 : decode cX0_told 112 = .ok (.iaload, 1) := dk_46 (dk_at dksX0_told_4 17 rfl rfl)
theorem dX0_told_113 : decode cX0_told 113 = .ok (.invokestatic 17, 3) := dk_184 0 17 (dk_at dksX0_told_4 18 rfl rfl)
theorem dX0_told_116 : decode cX0_told 116 = .ok (.aload_n 2, 1) := dk_44 (dk_at dksX0_told_4 21 rfl rfl)
theorem dX0_told_117 : decode cX0_told 117 = .ok (.iload 8, 2) := dk_21 8 (dk_at dksX0_told_4 22 rfl rfl)
theorem dX0_told_119 : decode cX0_told 119 = .ok (.iaload, 1) := dk_46 (dk_at dksX0_told_5 0 rfl rfl)
theorem dX0_told_120 : decode cX0_told 120 = .ok (.invokestatic 17, 3) := dk_184 0 17 (dk_at dksX0_told_5 1 rfl rfl)
theorem dX0_told_123 : decode cX0_told 123 = .ok (.if_icmp .ne 7, 3) := dk_160 0 7 (dk_at dksX0_told_5 4 rfl rfl)
theorem dX0_told_126 : decode cX0_told 126 = .ok (.iconst 1, 1) := dk_4 (dk_at dksX0_told_5 7 rfl rfl)
theorem dX0_told_127 : decode cX0_told 127 = .ok (.goto 4, 3) := dk_167 0 4 (dk_at dksX0_told_5 8 rfl rfl)
theorem dX0_told_130 : decode cX0_told 130 = .ok (.iconst 0, 1) := dk_3 (dk_at dksX0_told_5 11 rfl rfl)
theorem dX0_told_131 : decode cX0_told 131 = .ok (.istore 7, 2) := dk_54 7 (dk_at dksX0_told_5 12 rfl rfl)
theorem dX0_told_133 : decode cX0_told 133 = .ok (.iinc 8 1, 3) := dk_132 8 1 (dk_at dksX0_told_5 14 rfl rfl)
theorem dX0_told_136 : decode cX0_told 136 = .ok (.goto (-39), 3) := dk_167 255 217 (dk_at dksX0_told_5 17 rfl rfl)
theorem dX0_told_139 : decode cX0_told 139 = .ok (.aload_n 0, 1) := dk_42 (dk_at dksX0_told_5 20 rfl rfl)
theorem dX0_told_140 : decode cX0_told 140 = .ok (.invokevirtual 20, 3) := dk_182 0 20 (dk_at dksX0_told_5 21 rfl rfl)
theorem dX0_told_143 : decode cX0_told 143 = .ok (.iload 5, 2) := dk_21 5 (dk_at dksX0_told_6 0 rfl rfl)
theorem dX0_told_145 : decode cX0_told 145 = .ok (.if_icmp .ne 42, 3) := dk_160 0 42 (dk_at dksX0_told_6 2 rfl rfl)
theorem dX0_told_148 : decode cX0_told 148 = .ok (.aload_n 0, 1) := dk_42 (dk_at dksX0_told_6 5 rfl rfl)
theorem dX0_told_149 : decode cX0_told 149 = .ok (.invokevirtual 26, 3) := dk_182 0 26 (dk_at dksX0_told_6 6 rfl rfl)
theorem dX0_told_152 : decode cX0_told 152 = .ok (.iload 6, 2) := dk_21 6 (dk_at dksX0_told_6 9 rfl rfl)
theorem dX0_told_154 : decode cX0_told 154 = .ok (.if_icmp .ne 33, 3) := dk_160 0 33 (dk_at dksX0_told_6 11 rfl rfl)
theorem dX0_told_157 : decode cX0_told 157 = .ok (.aload_n 0, 1) := dk_42 (dk_at dksX0_told_6 14 rfl rfl)
theorem dX0_told_158 : decode cX0_told 158 = .ok (.invokevirtual 29, 3) := dk_182 0 29 (dk_at dksX0_told_6 15 rfl rfl)
theorem dX0_told_161 : decode cX0_told 161 = .ok (.iload 7, 2) := dk_21 7 (dk_at dksX0_told_6 18 rfl rfl)
theorem dX0_told_163 : decode cX0_told 163 = .ok (.if_icmp .ne 24, 3) := dk_160 0 24 (dk_at dksX0_told_6 20 rfl rfl)
theorem dX0_told_166 : decode cX0_told 166 = .ok (.aload_n 0, 1) := dk_42 (dk_at dksX0_told_6 23 rfl rfl)
theorem dX0_told_167 : decode cX0_told 167 = .ok (.iload_n 3, 1) := dk_29 (dk_at dksX0_told_7 0 rfl rfl)
theorem dX0_told_168 : decode cX0_told 168 = .ok (.invokevirtual 33, 3) := dk_182 0 33 (dk_at dksX0_told_7 1 rfl rfl)
theorem dX0_told_171 : decode cX0_told 171 = .ok (.iload_n 3, 1) := dk_29 (dk_at dksX0_told_7 4 rfl rfl)
theorem dX0_told_172 : decode cX0_told 172 = .ok (.iconst 1, 1) := dk_4 (dk_at dksX0_told_7 5 rfl rfl)
theorem dX0_told_173 : decode cX0_told 173 = .ok (.iand, 1) := dk_126 (dk_at dksX0_told_7 6 rfl rfl)
theorem dX0_told_174 : decode cX0_told 174 = .ok (.ifCond .ne 8, 3) := dk_154 0 8 (dk_at dksX0_told_7 7 rfl rfl)
theorem dX0_told_177 : decode cX0_told 177 = .ok (.aload_n 1, 1) := dk_43 (dk_at dksX0_told_7 10 rfl rfl)
theorem dX0_told_178 : decode cX0_told 178 = .ok (.arraylength, 1) := dk_190 (dk_at dksX0_told_7 11 rfl rfl)
theorem dX0_told_179 : decode cX0_told 179 = .ok (.goto 5, 3) := dk_167 0 5 (dk_at dksX0_told_7 12 rfl rfl)
theorem dX0_told_182 : decode cX0_told 182 = .ok (.aload_n 2, 1) := dk_44 (dk_at dksX0_told_7 15 rfl rfl)
theorem dX0_told_183 : decode cX0_told 183 = .ok (.arraylength, 1) := dk_190 (dk_at dksX0_told_7 16 rfl rfl)
theorem dX0_told_184 : decode cX0_told 184 = .ok (.if_icmp .eq 5, 3) := dk_159 0 5 (dk_at dksX0_told_7 17 rfl rfl)
theorem dX0_told_187 : decode cX0_told 187 = .ok (.iconst 0, 1) := dk_3 (dk_at dksX0_told_7 20 rfl rfl)
theorem dX0_told_188 : decode cX0_told 188 = .ok (.ireturn, 1) := dk_172 (dk_at dksX0_told_7 21 rfl rfl)
theorem dX0_told_189 : decode cX0_told 189 = .ok (.aload_n 0, 1) := dk_42 (dk_at dksX0_told_7 22 rfl rfl)
theorem dX0_told_190 : decode cX0_told 190 = .ok (.iconst 0, 1) := dk_3 (dk_at dksX0_told_7 23 rfl rfl)
theorem dX0_told_191 : decode cX0_told 191 = .ok (.invokevirtual 33, 3) := dk_182 0 33 (dk_at dksX0_told_8 0 rfl rfl)
theorem dX0_told_194 : decode cX0_told 194 = .ok (.aload_n 1, 1) := dk_43 (dk_at dksX0_told_8 3 rfl rfl)
theorem dX0_told_195 : decode cX0_told 195 = .ok (.arraylength, 1) := dk_190 (dk_at dksX0_told_8 4 rfl rfl)
theorem dX0_told_196 : decode cX0_told 196 = .ok (.if_icmp .ne 43, 3) := dk_160 0 43 (dk_at dksX0_told_8 5 rfl rfl)
theorem dX0_told_199 : decode cX0_told 199 = .ok (.aload_n 0, 1) := dk_42 (dk_at dksX0_told_8 8 rfl rfl)
theorem dX0_told_200 : decode cX0_told 200 = .ok (.iconst (-1), 1) := dk_2 (dk_at dksX0_told_8 9 rfl rfl)
theorem dX0_told_201 : decode cX0_told 201 = .ok (.invokevirtual 33, 3) := dk_182 0 33 (dk_at dksX0_told_8 10 rfl rfl)
theorem dX0_told_204 : decode cX0_told 204 = .ok (.aload_n 2, 1) := dk_44 (dk_at dksX0_told_8 13 rfl rfl)
theorem dX0_told_205 : decode cX0_told 205 = .ok (.arraylength, 1) := dk_190 (dk_at dksX0_told_8 14 rfl rfl)
theorem dX0_told_206 : decode cX0_told 206 = .ok (.if_icmp .ne 33, 3) := dk_160 0 33 (dk_at dksX0_told_8 15 rfl rfl)
theorem dX0_told_209 : decode cX0_told 209 = .ok (.aload_n 1, 1) := dk_43 (dk_at dksX0_told_8 18 rfl rfl)
theorem dX0_told_210 : decode cX0_told 210 = .ok (.arraylength, 1) := dk_190 (dk_at dksX0_told_8 19 rfl rfl)
theorem dX0_told_211 : decode cX0_told 211 = .ok (.ifCond .ne 13, 3) := dk_154 0 13 (dk_at dksX0_told_8 20 rfl rfl)
theorem dX0_told_214 : decode cX0_told 214 = .ok (.aload_n 0, 1) := dk_42 (dk_at dksX0_told_8 23 rfl rfl)
theorem dX0_told_215 : decode cX0_told 215 = .ok (.iconst 0, 1) := dk_3 (dk_at dksX0_told_9 0 rfl rfl)
theorem dX0_told_216 : decode cX0_told 216 = .ok (.iload_n 3, 1) := dk_29 (dk_at dksX0_told_9 1 rfl rfl)
theorem dX0_told_217 : decode cX0_told 217 = .ok (.invokevirtual 36, 3) := dk_182 0 36 (dk_at dksX0_told_9 2 rfl rfl)
theorem dX0_told_220 : decode cX0_told 220 = .ok (.iconst (-1), 1) := dk_2 (dk_at dksX0_told_9 5 rfl rfl)
theorem dX0_told_221 : decode cX0_told 221 = .ok (.if_icmp .ne 18, 3) := dk_160 0 18 (dk_at dksX0_told_9 6 rfl rfl)
theorem dX0_told_224 : decode cX0_told 224 = .ok (.aload_n 2, 1) := dk_44 (dk_at dksX0_told_9 9 rfl rfl)
theorem dX0_told_225 : decode cX0_told 225 = .ok (.arraylength, 1) := dk_190 (dk_at dksX0_told_9 10 rfl rfl)
theorem dX0_told_226 : decode cX0_told 226 = .ok (.ifCond .ne 15, 3) := dk_154 0 15 (dk_at dksX0_told_9 11 rfl rfl)
theorem dX0_told_229 : decode cX0_told 229 = .ok (.aload_n 0, 1) := dk_42 (dk_at dksX0_told_9 14 rfl rfl)
theorem dX0_told_230 : decode cX0_told 230 = .ok (.iconst 1, 1) := dk_4 (dk_at dksX0_told_9 15 rfl rfl)
theorem dX0_told_231 : decode cX0_told 231 = .ok (.iload_n 3, 1) := dk_29 (dk_at dksX0_told_9 16 rfl rfl)
theorem dX0_told_232 : decode cX0_told 232 = .ok (.invokevirtual 36, 3) := dk_182 0 36 (dk_at dksX0_told_9 17 rfl rfl)
theorem dX0_told_235 : decode cX0_told 235 = .ok (.iconst (-1), 1) := dk_2 (dk_at dksX0_told_9 20 rfl rfl)
theorem dX0_told_236 : decode cX0_told 236 = .ok (.if_icmp .eq 5, 3) := dk_159 0 5 (dk_at dksX0_told_9 21 rfl rfl)
theorem dX0_told_239 : decode cX0_told 239 = .ok (.iconst 0, 1) := dk_3 (dk_at dksX0_told_10 0 rfl rfl)
theorem dX0_told_240 : decode cX0_told 240 = .ok (.ireturn, 1) := dk_172 (dk_at dksX0_told_10 1 rfl rfl)
theorem dX0_told_241 : decode cX0_told 241 = .ok (.iconst 0, 1) := dk_3 (dk_at dksX0_told_10 2 rfl rfl)
theorem dX0_told_242 : decode cX0_told 242 = .ok (.istore 8, 2) := dk_54 8 (dk_at dksX0_told_10 3 rfl rfl)
theorem dX0_told_244 : decode cX0_told 244 = .ok (.iload 8, 2) := dk_21 8 (dk_at dksX0_told_10 5 rfl rfl)
theorem dX0_told_246 : decode cX0_told 246 = .ok (.aload_n 1, 1) := dk_43 (dk_at dksX0_told_10 7 rfl rfl)
theorem dX0_told_247 : decode cX0_told 247 = .ok (.arraylength, 1) := dk_190 (dk_at dksX0_told_10 8 rfl rfl)
theorem dX0_told_248 : decode cX0_told 248 = .ok (.if_icmp .ge 25, 3) := dk_162 0 25 (dk_at dksX0_told_10 9 rfl rfl)
theorem dX0_told_251 : decode cX0_told 251 = .ok (.aload_n 0, 1) := dk_42 (dk_at dksX0_told_10 12 rfl rfl)
theorem dX0_told_252 : decode cX0_told 252 = .ok (.iconst 0, 1) := dk_3 (dk_at dksX0_told_10 13 rfl rfl)
theorem dX0_told_253 : decode cX0_told 253 = .ok (.iload 8, 2) := dk_21 8 (dk_at dksX0_told_10 14 rfl rfl)
theorem dX0_told_255 : decode cX0_told 255 = .ok (.invokevirtual 36, 3) := dk_182 0 36 (dk_at dksX0_told_10 16 rfl rfl)
theorem dX0_told_258 : decode cX0_told 258 = .ok (.aload_n 1, 1) := dk_43 (dk_at dksX0_told_10 19 rfl rfl)
theorem dX0_told_259 : decode cX0_told 259 = .ok (.iload 8, 2) := dk_21 8 (dk_at dksX0_told_10 20 rfl rfl)
theorem dX0_told_261 : decode cX0_told 261 = .ok (.iaload, 1) := dk_46 (dk_at dksX0_told_10 22 rfl rfl)
theorem dX0_told_262 : decode cX0_told 262 = .ok (.if_icmp .eq 5, 3) := dk_159 0 5 (dk_at dksX0_told_11 0 rfl rfl)
theorem dX0_told_265 : decode cX0_told 265 = .ok (.iconst 0, 1) := dk_3 (dk_at dksX0_told_11 3 rfl rfl)
theorem dX0_told_266 : decode cX0_told 266 = .ok (.ireturn, 1) := dk_172 (dk_at dksX0_told_11 4 rfl rfl)
theorem dX0_told_267 : decode cX0_told 267 = .ok (.iinc 8 1, 3) := dk_132 8 1 (dk_at dksX0_told_11 5 rfl rfl)
theorem dX0_told_270 : decode cX0_told 270 = .ok (.goto (-26), 3) := dk_167 255 230 (dk_at dksX0_told_11 8 rfl rfl)
theorem dX0_told_273 : decode cX0_told 273 = .ok (.iconst 0, 1) := dk_3 (dk_at dksX0_told_11 11 rfl rfl)
theorem dX0_told_274 : decode cX0_told 274 = .ok (.istore 8, 2) := dk_54 8 (dk_at dksX0_told_11 12 rfl rfl)
theorem dX0_told_276 : decode cX0_told 276 = .ok (.iload 8, 2) := dk_21 8 (dk_at dksX0_told_11 14 rfl rfl)
theorem dX0_told_278 : decode cX0_told 278 = .ok (.aload_n 2, 1) := dk_44 (dk_at dksX0_told_11 16 rfl rfl)
theorem dX0_told_279 : decode cX0_told 279 = .ok (.arraylength, 1) := dk_190 (dk_at dksX0_told_11 17 rfl rfl)
theorem dX0_told_280 : decode cX0_told 280 = .ok (.if_icmp .ge 25, 3) := dk_162 0 25 (dk_at dksX0_told_11 18 rfl rfl)
theorem dX0_told_283 : decode cX0_told 283 = .ok (.aload_n 0, 1) := dk_42 (dk_at dksX0_told_11 21 rfl rfl)
theorem dX0_told_284 : decode cX0_told 284 = .ok (.iconst 1, 1) := dk_4 (dk_at dksX0_told_11 22 rfl rfl)
theorem dX0_told_285 : decode cX0_told 285 = .ok (.iload 8, 2) := dk_21 8 (dk_at dksX0_told_12 0 rfl rfl)
theorem dX0_told_287 : decode cX0_told 287 = .ok (.invokevirtual 36, 3) := dk_182 0 36 (dk_at dksX0_told_12 2 rfl rfl)
theorem dX0_told_290 : decode cX0_told 290 = .ok (.aload_n 2, 1) := dk_44 (dk_at dksX0_told_12 5 rfl rfl)
theorem dX0_told_291 : decode cX0_told 291 = .ok (.iload 8, 2) := dk_21 8 (dk_at dksX0_told_12 6 rfl rfl)
theorem dX0_told_293 : decode cX0_told 293 = .ok (.iaload, 1) := dk_46 (dk_at dksX0_told_12 8 rfl rfl)
theorem dX0_told_294 : decode cX0_told 294 = .ok (.if_icmp .eq 5, 3) := dk_159 0 5 (dk_at dksX0_told_12 9 rfl rfl)
theorem dX0_told_297 : decode cX0_told 297 = .ok (.iconst 0, 1) := dk_3 (dk_at dksX0_told_12 12 rfl rfl)
theorem dX0_told_298 : decode cX0_told 298 = .ok (.ireturn, 1) := dk_172 (dk_at dksX0_told_12 13 rfl rfl)
theorem dX0_told_299 : decode cX0_told 299 = .ok (.iinc 8 1, 3) := dk_132 8 1 (dk_at dksX0_told_12 14 rfl rfl)
theorem dX0_told_302 : decode cX0_told 302 = .ok (.goto (-26), 3) := dk_167 255 230 (dk_at dksX0_told_12 17 rfl rfl)
theorem dX0_told_305 : decode cX0_told 305 = .ok (.aload_n 1, 1) := dk_43 (dk_at dksX0_told_12 20 rfl rfl)
theorem dX0_told_306 : decode cX0_told 306 = .ok (.arraylength, 1) := dk_190 (dk_at dksX0_told_12 21 rfl rfl)
theorem dX0_told_307 : decode cX0_told 307 = .ok (.ifCond .eq 22, 3) := dk_153 0 22 (dk_at dksX0_told_13 0 rfl rfl)
theorem dX0_told_310 : decode cX0_told 310 = .ok (.aload_n 0, 1) := dk_42 (dk_at dksX0_told_13 3 rfl rfl)
theorem dX0_told_311 : decode cX0_told 311 = .ok (.bipush (-2), 2) := dk_16 254 (dk_at dksX0_told_13 4 rfl rfl)
theorem dX0_told_313 : decode cX0_told 313 = .ok (.iload_n 3, 1) := dk_29 (dk_at dksX0_told_13 6 rfl rfl)
theorem dX0_told_314 : decode cX0_told 314 = .ok (.invokevirtual 36, 3) := dk_182 0 36 (dk_at dksX0_told_13 7 rfl rfl)
theorem dX0_told_317 : decode cX0_told 317 = .ok (.aload_n 1, 1) := dk_43 (dk_at dksX0_told_13 10 rfl rfl)
theorem dX0_told_318 : decode cX0_told 318 = .ok (.iload_n 3, 1) := dk_29 (dk_at dksX0_told_13 11 rfl rfl)
theorem dX0_told_319 : decode cX0_told 319 = .ok (.invokestatic 10, 3) := dk_184 0 10 (dk_at dksX0_told_13 12 rfl rfl)
theorem dX0_told_322 : decode cX0_told 322 = .ok (.aload_n 1, 1) := dk_43 (dk_at dksX0_told_13 15 rfl rfl)
theorem dX0_told_323 : decode cX0_told 323 = .ok (.arraylength, 1) := dk_190 (dk_at dksX0_told_13 16 rfl rfl)
theorem dX0_told_324 : decode cX0_told 324 = .ok (.irem, 1) := dk_112 (dk_at dksX0_told_13 17 rfl rfl)
theorem dX0_told_325 : decode cX0_told 325 = .ok (.iaload, 1) := dk_46 (dk_at dksX0_told_13 18 rfl rfl)
theorem dX0_told_326 : decode cX0_told 326 = .ok (.if_icmp .ne 7, 3) := dk_160 0 7 (dk_at dksX0_told_13 19 rfl rfl)
theorem dX0_told_329 : decode cX0_told 329 = .ok (.iconst 1, 1) := dk_4 (dk_at dksX0_told_13 22 rfl rfl)
theorem dX0_told_330 : decode cX0_told 330 = .ok (.goto 4, 3) := dk_167 0 4 (dk_at dksX0_told_14 0 rfl rfl)
theorem dX0_told_333 : decode cX0_told 333 = .ok (.iconst 0, 1) := dk_3 (dk_at dksX0_told_14 3 rfl rfl)
theorem dX0_told_334 : decode cX0_told 334 = .ok (.ireturn, 1) := dk_172 (dk_at dksX0_told_14 4 rfl rfl)
/-! TextDesk -/
set_option maxRecDepth 100000
def RX1 : String := "TextDesk"
def TX1 : u_T := fun k => match k with
  | 0 => ("TextDesk", "a", "Ljava/lang/String;", false)
  | _ => ("TextDesk", "b", "Ljava/lang/String;", false)
def tyX1 : Nat → FieldType := fun k => match k with
  | 0 => .object "java/lang/String"
  | _ => .object "java/lang/String"
abbrev wsX10 : List Cond := u_ws RX1 TX1 2
theorem nmX1 : ∀ a, a < 2 → ∀ b, b < 2 → a ≠ b → (TX1 a).2.1 ≠ (TX1 b).2.1 := by decide +kernel
theorem tyX1_ok : ∀ k, k < 2 → parseFieldDescriptor (TX1 k).2.2.1 = some (tyX1 k) := by decide +kernel
abbrev cX1_init : ByteArray := prog_4_method_1_code
def yX1_init : MethodName := ⟨RX1, "<init>", "()V"⟩
def dkwX1_init_0 : List UInt8 := [42, 183, 0, 1, 42, 18, 7, 181, 0, 9, 42, 18, 7, 181, 0, 15, 177]
abbrev dktX1_init_0 : List UInt8 := dkwX1_init_0 ++ []
theorem dksX1_init_0 : cX1_init.data.toList.drop 0 = dktX1_init_0 := by decide +kernel
theorem dX1_init_0 : decode cX1_init 0 = .ok (.aload_n 0, 1) := dk_42 (dk_at dksX1_init_0 0 rfl rfl)
theorem dX1_init_1 : decode cX1_init 1 = .ok (.invokespecial 1, 3) := dk_183 0 1 (dk_at dksX1_init_0 1 rfl rfl)
theorem dX1_init_4 : decode cX1_init 4 = .ok (.aload_n 0, 1) := dk_42 (dk_at dksX1_init_0 4 rfl rfl)
theorem dX1_init_5 : decode cX1_init 5 = .ok (.ldc 7, 2) := dk_18 7 (dk_at dksX1_init_0 5 rfl rfl)
theorem dX1_init_7 : decode cX1_init 7 = .ok (.putfield 9, 3) := dk_181 0 9 (dk_at dksX1_init_0 7 rfl rfl)
theorem dX1_init_10 : decode cX1_init 10 = .ok (.aload_n 0, 1) := dk_42 (dk_at dksX1_init_0 10 rfl rfl)
theorem dX1_init_11 : decode cX1_init 11 = .ok (.ldc 7, 2) := dk_18 7 (dk_at dksX1_init_0 11 rfl rfl)
theorem dX1_init_13 : decode cX1_init 13 = .ok (.putfield 15, 3) := dk_181 0 15 (dk_at dksX1_init_0 13 rfl rfl)
theorem dX1_init_16 : decode cX1_init 16 = .ok (.return_, 1) := dk_177 (dk_at dksX1_init_0 16 rfl rfl)
abbrev cX1_put : ByteArray := prog_4_method_3_code
def yX1_put : MethodName := ⟨RX1, "put", "(III)Z"⟩
def dkwX1_put_4 : List UInt8 := [182, 0, 34, 182, 0, 38, 181, 0, 15, 4, 172]
abbrev dktX1_put_4 : List UInt8 := dkwX1_put_4 ++ []
def dkwX1_put_3 : List UInt8 := [187, 0, 25, 89, 42, 180, 0, 15, 183, 0, 27, 28, 184, 0, 30, 182, 0, 34, 29, 184, 0, 30]
abbrev dktX1_put_3 : List UInt8 := dkwX1_put_3 ++ dktX1_put_4
def dkwX1_put_2 : List UInt8 := [182, 0, 38, 181, 0, 9, 167, 0, 49, 42, 180, 0, 15, 182, 0, 19, 16, 60, 164, 0, 5, 3, 172, 42]
abbrev dktX1_put_2 : List UInt8 := dkwX1_put_2 ++ dktX1_put_3
def dkwX1_put_1 : List UInt8 := [89, 42, 180, 0, 9, 183, 0, 27, 28, 184, 0, 30, 182, 0, 34, 29, 184, 0, 30, 182, 0, 34]
abbrev dktX1_put_1 : List UInt8 := dkwX1_put_1 ++ dktX1_put_2
def dkwX1_put_0 : List UInt8 := [27, 4, 126, 154, 0, 52, 42, 180, 0, 9, 182, 0, 19, 16, 60, 164, 0, 5, 3, 172, 42, 187, 0, 25]
abbrev dktX1_put_0 : List UInt8 := dkwX1_put_0 ++ dktX1_put_1
theorem dksX1_put_0 : cX1_put.data.toList.drop 0 = dktX1_put_0 := by decide +kernel
theorem dksX1_put_1 : cX1_put.data.toList.drop 24 = dktX1_put_1 := dk_seg dksX1_put_0 24 rfl rfl
theorem dksX1_put_2 : cX1_put.data.toList.drop 46 = dktX1_put_2 := dk_seg dksX1_put_1 22 rfl rfl
theorem dksX1_put_3 : cX1_put.data.toList.drop 70 = dktX1_put_3 := dk_seg dksX1_put_2 24 rfl rfl
theorem dksX1_put_4 : cX1_put.data.toList.drop 92 = dktX1_put_4 := dk_seg dksX1_put_3 22 rfl rfl
theorem dX1_put_0 : decode cX1_put 0 = .ok (.iload_n 1, 1) := dk_27 (dk_at dksX1_put_0 0 rfl rfl)
theorem dX1_put_1 : decode cX1_put 1 = .ok (.iconst 1, 1) := dk_4 (dk_at dksX1_put_0 1 rfl rfl)
theorem dX1_put_2 : decode cX1_put 2 = .ok (.iand, 1) := dk_126 (dk_at dksX1_put_0 2 rfl rfl)
theorem dX1_put_3 : decode cX1_put 3 = .ok (.ifCond .ne 52, 3) := dk_154 0 52 (dk_at dksX1_put_0 3 rfl rfl)
theorem dX1_put_6 : decode cX1_put 6 = .ok (.aload_n 0, 1) := dk_42 (dk_at dksX1_put_0 6 rfl rfl)
theorem dX1_put_7 : decode cX1_put 7 = .ok (.getfield 9, 3) := dk_180 0 9 (dk_at dksX1_put_0 7 rfl rfl)
theorem dX1_put_10 : decode cX1_put 10 = .ok (.invokevirtual 19, 3) := dk_182 0 19 (dk_at dksX1_put_0 10 rfl rfl)
theorem dX1_put_13 : decode cX1_put 13 = .ok (.bipush 60, 2) := dk_16 60 (dk_at dksX1_put_0 13 rfl rfl)
theorem dX1_put_15 : decode cX1_put 15 = .ok (.if_icmp .le 5, 3) := dk_164 0 5 (dk_at dksX1_put_0 15 rfl rfl)
theorem dX1_put_18 : decode cX1_put 18 = .ok (.iconst 0, 1) := dk_3 (dk_at dksX1_put_0 18 rfl rfl)
theorem dX1_put_19 : decode cX1_put 19 = .ok (.ireturn, 1) := dk_172 (dk_at dksX1_put_0 19 rfl rfl)
theorem dX1_put_20 : decode cX1_put 20 = .ok (.aload_n 0, 1) := dk_42 (dk_at dksX1_put_0 20 rfl rfl)
theorem dX1_put_21 : decode cX1_put 21 = .ok (.new 25, 3) := dk_187 0 25 (dk_at dksX1_put_0 21 rfl rfl)
theorem dX1_put_24 : decode cX1_put 24 = .ok (.dup, 1) := dk_89 (dk_at dksX1_put_1 0 rfl rfl)
theorem dX1_put_25 : decode cX1_put 25 = .ok (.aload_n 0, 1) := dk_42 (dk_at dksX1_put_1 1 rfl rfl)
theorem dX1_put_26 : decode cX1_put 26 = .ok (.getfield 9, 3) := dk_180 0 9 (dk_at dksX1_put_1 2 rfl rfl)
theorem dX1_put_29 : decode cX1_put 29 = .ok (.invokespecial 27, 3) := dk_183 0 27 (dk_at dksX1_put_1 5 rfl rfl)
theorem dX1_put_32 : decode cX1_put 32 = .ok (.iload_n 2, 1) := dk_28 (dk_at dksX1_put_1 8 rfl rfl)
theorem dX1_put_33 : decode cX1_put 33 = .ok (.invokestatic 30, 3) := dk_184 0 30 (dk_at dksX1_put_1 9 rfl rfl)
theorem dX1_put_36 : decode cX1_put 36 = .ok (.invokevirtual 34, 3) := dk_182 0 34 (dk_at dksX1_put_1 12 rfl rfl)
theorem dX1_put_39 : decode cX1_put 39 = .ok (.iload_n 3, 1) := dk_29 (dk_at dksX1_put_1 15 rfl rfl)
theorem dX1_put_40 : decode cX1_put 40 = .ok (.invokestatic 30, 3) := dk_184 0 30 (dk_at dksX1_put_1 16 rfl rfl)
theorem dX1_put_43 : decode cX1_put 43 = .ok (.invokevirtual 34, 3) := dk_182 0 34 (dk_at dksX1_put_1 19 rfl rfl)
theorem dX1_put_46 : decode cX1_put 46 = .ok (.invokevirtual 38, 3) := dk_182 0 38 (dk_at dksX1_put_2 0 rfl rfl)
theorem dX1_put_49 : decode cX1_put 49 = .ok (.putfield 9, 3) := dk_181 0 9 (dk_at dksX1_put_2 3 rfl rfl)
theorem dX1_put_52 : decode cX1_put 52 = .ok (.goto 49, 3) := dk_167 0 49 (dk_at dksX1_put_2 6 rfl rfl)
theorem dX1_put_55 : decode cX1_put 55 = .ok (.aload_n 0, 1) := dk_42 (dk_at dksX1_put_2 9 rfl rfl)
theorem dX1_put_56 : decode cX1_put 56 = .ok (.getfield 15, 3) := dk_180 0 15 (dk_at dksX1_put_2 10 rfl rfl)
theorem dX1_put_59 : decode cX1_put 59 = .ok (.invokevirtual 19, 3) := dk_182 0 19 (dk_at dksX1_put_2 13 rfl rfl)
theorem dX1_put_62 : decode cX1_put 62 = .ok (.bipush 60, 2) := dk_16 60 (dk_at dksX1_put_2 16 rfl rfl)
theorem dX1_put_64 : decode cX1_put 64 = .ok (.if_icmp .le 5, 3) := dk_164 0 5 (dk_at dksX1_put_2 18 rfl rfl)
theorem dX1_put_67 : decode cX1_put 67 = .ok (.iconst 0, 1) := dk_3 (dk_at dksX1_put_2 21 rfl rfl)
theorem dX1_put_68 : decode cX1_put 68 = .ok (.ireturn, 1) := dk_172 (dk_at dksX1_put_2 22 rfl rfl)
theorem dX1_put_69 : decode cX1_put 69 = .ok (.aload_n 0, 1) := dk_42 (dk_at dksX1_put_2 23 rfl rfl)
theorem dX1_put_70 : decode cX1_put 70 = .ok (.new 25, 3) := dk_187 0 25 (dk_at dksX1_put_3 0 rfl rfl)
theorem dX1_put_73 : decode cX1_put 73 = .ok (.dup, 1) := dk_89 (dk_at dksX1_put_3 3 rfl rfl)
theorem dX1_put_74 : decode cX1_put 74 = .ok (.aload_n 0, 1) := dk_42 (dk_at dksX1_put_3 4 rfl rfl)
theorem dX1_put_75 : decode cX1_put 75 = .ok (.getfield 15, 3) := dk_180 0 15 (dk_at dksX1_put_3 5 rfl rfl)
theorem dX1_put_78 : decode cX1_put 78 = .ok (.invokespecial 27, 3) := dk_183 0 27 (dk_at dksX1_put_3 8 rfl rfl)
theorem dX1_put_81 : decode cX1_put 81 = .ok (.iload_n 2, 1) := dk_28 (dk_at dksX1_put_3 11 rfl rfl)
theorem dX1_put_82 : decode cX1_put 82 = .ok (.invokestatic 30, 3) := dk_184 0 30 (dk_at dksX1_put_3 12 rfl rfl)
theorem dX1_put_85 : decode cX1_put 85 = .ok (.invokevirtual 34, 3) := dk_182 0 34 (dk_at dksX1_put_3 15 rfl rfl)
theorem dX1_put_88 : decode cX1_put 88 = .ok (.iload_n 3, 1) := dk_29 (dk_at dksX1_put_3 18 rfl rfl)
theorem dX1_put_89 : decode cX1_put 89 = .ok (.invokestatic 30, 3) := dk_184 0 30 (dk_at dksX1_put_3 19 rfl rfl)
theorem dX1_put_92 : decode cX1_put 92 = .ok (.invokevirtual 34, 3) := dk_182 0 34 (dk_at dksX1_put_4 0 rfl rfl)
theorem dX1_put_95 : decode cX1_put 95 = .ok (.invokevirtual 38, 3) := dk_182 0 38 (dk_at dksX1_put_4 3 rfl rfl)
theorem dX1_put_98 : decode cX1_put 98 = .ok (.putfield 15, 3) := dk_181 0 15 (dk_at dksX1_put_4 6 rfl rfl)
theorem dX1_put_101 : decode cX1_put 101 = .ok (.iconst 1, 1) := dk_4 (dk_at dksX1_put_4 9 rfl rfl)
theorem dX1_put_102 : decode cX1_put 102 = .ok (.ireturn, 1) := dk_172 (dk_at dksX1_put_4 10 rfl rfl)
abbrev cX1_sign : ByteArray := prog_4_method_2_code
def yX1_sign : MethodName := ⟨RX1, "sign", "(I)C"⟩
def dkwX1_sign_0 : List UInt8 := [16, 32, 26, 18, 18, 126, 16, 95, 112, 96, 146, 172]
abbrev dktX1_sign_0 : List UInt8 := dkwX1_sign_0 ++ []
theorem dksX1_sign_0 : cX1_sign.data.toList.drop 0 = dktX1_sign_0 := by decide +kernel
theorem dX1_sign_0 : decode cX1_sign 0 = .ok (.bipush 32, 2) := dk_16 32 (dk_at dksX1_sign_0 0 rfl rfl)
theorem dX1_sign_2 : decode cX1_sign 2 = .ok (.iload_n 0, 1) := dk_26 (dk_at dksX1_sign_0 2 rfl rfl)
theorem dX1_sign_3 : decode cX1_sign 3 = .ok (.ldc 18, 2) := dk_18 18 (dk_at dksX1_sign_0 3 rfl rfl)
theorem dX1_sign_5 : decode cX1_sign 5 = .ok (.iand, 1) := dk_126 (dk_at dksX1_sign_0 5 rfl rfl)
theorem dX1_sign_6 : decode cX1_sign 6 = .ok (.bipush 95, 2) := dk_16 95 (dk_at dksX1_sign_0 6 rfl rfl)
theorem dX1_sign_8 : decode cX1_sign 8 = .ok (.irem, 1) := dk_112 (dk_at dksX1_sign_0 8 rfl rfl)
theorem dX1_sign_9 : decode cX1_sign 9 = .ok (.iadd, 1) := dk_96 (dk_at dksX1_sign_0 9 rfl rfl)
theorem dX1_sign_10 : decode cX1_sign 10 = .ok (.i2c, 1) := dk_146 (dk_at dksX1_sign_0 10 rfl rfl)
theorem dX1_sign_11 : decode cX1_sign 11 = .ok (.ireturn, 1) := dk_172 (dk_at dksX1_sign_0 11 rfl rfl)
abbrev cX1_empty : ByteArray := prog_4_method_4_code
def yX1_empty : MethodName := ⟨RX1, "empty", "(I)V"⟩
def dkwX1_empty_0 : List UInt8 := [27, 4, 126, 154, 0, 12, 42, 18, 7, 181, 0, 9, 167, 0, 9, 42, 18, 7, 181, 0, 15, 177]
abbrev dktX1_empty_0 : List UInt8 := dkwX1_empty_0 ++ []
theorem dksX1_empty_0 : cX1_empty.data.toList.drop 0 = dktX1_empty_0 := by decide +kernel
theorem dX1_empty_0 : decode cX1_empty 0 = .ok (.iload_n 1, 1) := dk_27 (dk_at dksX1_empty_0 0 rfl rfl)
theorem dX1_empty_1 : decode cX1_empty 1 = .ok (.iconst 1, 1) := dk_4 (dk_at dksX1_empty_0 1 rfl rfl)
theorem dX1_empty_2 : decode cX1_empty 2 = .ok (.iand, 1) := dk_126 (dk_at dksX1_empty_0 2 rfl rfl)
theorem dX1_empty_3 : decode cX1_empty 3 = .ok (.ifCond .ne 12, 3) := dk_154 0 12 (dk_at dksX1_empty_0 3 rfl rfl)
theorem dX1_empty_6 : decode cX1_empty 6 = .ok (.aload_n 0, 1) := dk_42 (dk_at dksX1_empty_0 6 rfl rfl)
theorem dX1_empty_7 : decode cX1_empty 7 = .ok (.ldc 7, 2) := dk_18 7 (dk_at dksX1_empty_0 7 rfl rfl)
theorem dX1_empty_9 : decode cX1_empty 9 = .ok (.putfield 9, 3) := dk_181 0 9 (dk_at dksX1_empty_0 9 rfl rfl)
theorem dX1_empty_12 : decode cX1_empty 12 = .ok (.goto 9, 3) := dk_167 0 9 (dk_at dksX1_empty_0 12 rfl rfl)
theorem dX1_empty_15 : decode cX1_empty 15 = .ok (.aload_n 0, 1) := dk_42 (dk_at dksX1_empty_0 15 rfl rfl)
theorem dX1_empty_16 : decode cX1_empty 16 = .ok (.ldc 7, 2) := dk_18 7 (dk_at dksX1_empty_0 16 rfl rfl)
theorem dX1_empty_18 : decode cX1_empty 18 = .ok (.putfield 15, 3) := dk_181 0 15 (dk_at dksX1_empty_0 18 rfl rfl)
theorem dX1_empty_21 : decode cX1_empty 21 = .ok (.return_, 1) := dk_177 (dk_at dksX1_empty_0 21 rfl rfl)
abbrev cX1_padStart : ByteArray := prog_4_method_7_code
def yX1_padStart : MethodName := ⟨RX1, "padStart", "(II)V"⟩
def dkwX1_padStart_0 : List UInt8 := [42, 42, 180, 0, 9, 27, 16, 63, 126, 28, 184, 0, 30, 184, 0, 51, 181, 0, 15, 177]
abbrev dktX1_padStart_0 : List UInt8 := dkwX1_padStart_0 ++ []
theorem dksX1_padStart_0 : cX1_padStart.data.toList.drop 0 = dktX1_padStart_0 := by decide +kernel
theorem dX1_padStart_0 : decode cX1_padStart 0 = .ok (.aload_n 0, 1) := dk_42 (dk_at dksX1_padStart_0 0 rfl rfl)
theorem dX1_padStart_1 : decode cX1_padStart 1 = .ok (.aload_n 0, 1) := dk_42 (dk_at dksX1_padStart_0 1 rfl rfl)
theorem dX1_padStart_2 : decode cX1_padStart 2 = .ok (.getfield 9, 3) := dk_180 0 9 (dk_at dksX1_padStart_0 2 rfl rfl)
theorem dX1_padStart_5 : decode cX1_padStart 5 = .ok (.iload_n 1, 1) := dk_27 (dk_at dksX1_padStart_0 5 rfl rfl)
theorem dX1_padStart_6 : decode cX1_padStart 6 = .ok (.bipush 63, 2) := dk_16 63 (dk_at dksX1_padStart_0 6 rfl rfl)
theorem dX1_padStart_8 : decode cX1_padStart 8 = .ok (.iand, 1) := dk_126 (dk_at dksX1_padStart_0 8 rfl rfl)
theorem dX1_padStart_9 : decode cX1_padStart 9 = .ok (.iload_n 2, 1) := dk_28 (dk_at dksX1_padStart_0 9 rfl rfl)
theorem dX1_padStart_10 : decode cX1_padStart 10 = .ok (.invokestatic 30, 3) := dk_184 0 30 (dk_at dksX1_padStart_0 10 rfl rfl)
theorem dX1_padStart_13 : decode cX1_padStart 13 = .ok (.invokestatic 51, 3) := dk_184 0 51 (dk_at dksX1_padStart_0 13 rfl rfl)
theorem dX1_padStart_16 : decode cX1_padStart 16 = .ok (.putfield 15, 3) := dk_181 0 15 (dk_at dksX1_padStart_0 16 rfl rfl)
theorem dX1_padStart_19 : decode cX1_padStart 19 = .ok (.return_, 1) := dk_177 (dk_at dksX1_padStart_0 19 rfl rfl)
abbrev cX1_padEnd : ByteArray := prog_4_method_8_code
def yX1_padEnd : MethodName := ⟨RX1, "padEnd", "(II)V"⟩
def dkwX1_padEnd_0 : List UInt8 := [42, 42, 180, 0, 9, 27, 16, 63, 126, 28, 184, 0, 30, 184, 0, 55, 181, 0, 15, 177]
abbrev dktX1_padEnd_0 : List UInt8 := dkwX1_padEnd_0 ++ []
theorem dksX1_padEnd_0 : cX1_padEnd.data.toList.drop 0 = dktX1_padEnd_0 := by decide +kernel
theorem dX1_padEnd_0 : decode cX1_padEnd 0 = .ok (.aload_n 0, 1) := dk_42 (dk_at dksX1_padEnd_0 0 rfl rfl)
theorem dX1_padEnd_1 : decode cX1_padEnd 1 = .ok (.aload_n 0, 1) := dk_42 (dk_at dksX1_padEnd_0 1 rfl rfl)
theorem dX1_padEnd_2 : decode cX1_padEnd 2 = .ok (.getfield 9, 3) := dk_180 0 9 (dk_at dksX1_padEnd_0 2 rfl rfl)
theorem dX1_padEnd_5 : decode cX1_padEnd 5 = .ok (.iload_n 1, 1) := dk_27 (dk_at dksX1_padEnd_0 5 rfl rfl)
theorem dX1_padEnd_6 : decode cX1_padEnd 6 = .ok (.bipush 63, 2) := dk_16 63 (dk_at dksX1_padEnd_0 6 rfl rfl)
theorem dX1_padEnd_8 : decode cX1_padEnd 8 = .ok (.iand, 1) := dk_126 (dk_at dksX1_padEnd_0 8 rfl rfl)
theorem dX1_padEnd_9 : decode cX1_padEnd 9 = .ok (.iload_n 2, 1) := dk_28 (dk_at dksX1_padEnd_0 9 rfl rfl)
theorem dX1_padEnd_10 : decode cX1_padEnd 10 = .ok (.invokestatic 30, 3) := dk_184 0 30 (dk_at dksX1_padEnd_0 10 rfl rfl)
theorem dX1_padEnd_13 : decode cX1_padEnd 13 = .ok (.invokestatic 55, 3) := dk_184 0 55 (dk_at dksX1_padEnd_0 13 rfl rfl)
theorem dX1_padEnd_16 : decode cX1_padEnd 16 = .ok (.putfield 15, 3) := dk_181 0 15 (dk_at dksX1_padEnd_0 16 rfl rfl)
theorem dX1_padEnd_19 : decode cX1_padEnd 19 = .ok (.return_, 1) := dk_177 (dk_at dksX1_padEnd_0 19 rfl rfl)
abbrev cX1_lower : ByteArray := prog_4_method_9_code
def yX1_lower : MethodName := ⟨RX1, "lower", "(I)V"⟩
def dkwX1_lower_1 : List UInt8 := [180, 0, 15, 184, 0, 58, 181, 0, 15, 177]
abbrev dktX1_lower_1 : List UInt8 := dkwX1_lower_1 ++ []
def dkwX1_lower_0 : List UInt8 := [27, 4, 126, 154, 0, 17, 42, 42, 180, 0, 9, 184, 0, 58, 181, 0, 9, 167, 0, 14, 42, 42]
abbrev dktX1_lower_0 : List UInt8 := dkwX1_lower_0 ++ dktX1_lower_1
theorem dksX1_lower_0 : cX1_lower.data.toList.drop 0 = dktX1_lower_0 := by decide +kernel
theorem dksX1_lower_1 : cX1_lower.data.toList.drop 22 = dktX1_lower_1 := dk_seg dksX1_lower_0 22 rfl rfl
theorem dX1_lower_0 : decode cX1_lower 0 = .ok (.iload_n 1, 1) := dk_27 (dk_at dksX1_lower_0 0 rfl rfl)
theorem dX1_lower_1 : decode cX1_lower 1 = .ok (.iconst 1, 1) := dk_4 (dk_at dksX1_lower_0 1 rfl rfl)
theorem dX1_lower_2 : decode cX1_lower 2 = .ok (.iand, 1) := dk_126 (dk_at dksX1_lower_0 2 rfl rfl)
theorem dX1_lower_3 : decode cX1_lower 3 = .ok (.ifCond .ne 17, 3) := dk_154 0 17 (dk_at dksX1_lower_0 3 rfl rfl)
theorem dX1_lower_6 : decode cX1_lower 6 = .ok (.aload_n 0, 1) := dk_42 (dk_at dksX1_lower_0 6 rfl rfl)
theorem dX1_lower_7 : decode cX1_lower 7 = .ok (.aload_n 0, 1) := dk_42 (dk_at dksX1_lower_0 7 rfl rfl)
theorem dX1_lower_8 : decode cX1_lower 8 = .ok (.getfield 9, 3) := dk_180 0 9 (dk_at dksX1_lower_0 8 rfl rfl)
theorem dX1_lower_11 : decode cX1_lower 11 = .ok (.invokestatic 58, 3) := dk_184 0 58 (dk_at dksX1_lower_0 11 rfl rfl)
theorem dX1_lower_14 : decode cX1_lower 14 = .ok (.putfield 9, 3) := dk_181 0 9 (dk_at dksX1_lower_0 14 rfl rfl)
theorem dX1_lower_17 : decode cX1_lower 17 = .ok (.goto 14, 3) := dk_167 0 14 (dk_at dksX1_lower_0 17 rfl rfl)
theorem dX1_lower_20 : decode cX1_lower 20 = .ok (.aload_n 0, 1) := dk_42 (dk_at dksX1_lower_0 20 rfl rfl)
theorem dX1_lower_21 : decode cX1_lower 21 = .ok (.aload_n 0, 1) := dk_42 (dk_at dksX1_lower_0 21 rfl rfl)
theorem dX1_lower_22 : decode cX1_lower 22 = .ok (.getfield 15, 3) := dk_180 0 15 (dk_at dksX1_lower_1 0 rfl rfl)
theorem dX1_lower_25 : decode cX1_lower 25 = .ok (.invokestatic 58, 3) := dk_184 0 58 (dk_at dksX1_lower_1 3 rfl rfl)
theorem dX1_lower_28 : decode cX1_lower 28 = .ok (.putfield 15, 3) := dk_181 0 15 (dk_at dksX1_lower_1 6 rfl rfl)
theorem dX1_lower_31 : decode cX1_lower 31 = .ok (.return_, 1) := dk_177 (dk_at dksX1_lower_1 9 rfl rfl)
abbrev cX1_upper : ByteArray := prog_4_method_10_code
def yX1_upper : MethodName := ⟨RX1, "upper", "(I)V"⟩
def dkwX1_upper_1 : List UInt8 := [180, 0, 15, 184, 0, 64, 181, 0, 15, 177]
abbrev dktX1_upper_1 : List UInt8 := dkwX1_upper_1 ++ []
def dkwX1_upper_0 : List UInt8 := [27, 4, 126, 154, 0, 17, 42, 42, 180, 0, 9, 184, 0, 64, 181, 0, 9, 167, 0, 14, 42, 42]
abbrev dktX1_upper_0 : List UInt8 := dkwX1_upper_0 ++ dktX1_upper_1
theorem dksX1_upper_0 : cX1_upper.data.toList.drop 0 = dktX1_upper_0 := by decide +kernel
theorem dksX1_upper_1 : cX1_upper.data.toList.drop 22 = dktX1_upper_1 := dk_seg dksX1_upper_0 22 rfl rfl
theorem dX1_upper_0 : decode cX1_upper 0 = .ok (.iload_n 1, 1) := dk_27 (dk_at dksX1_upper_0 0 rfl rfl)
theorem dX1_upper_1 : decode cX1_upper 1 = .ok (.iconst 1, 1) := dk_4 (dk_at dksX1_upper_0 1 rfl rfl)
theorem dX1_upper_2 : decode cX1_upper 2 = .ok (.iand, 1) := dk_126 (dk_at dksX1_upper_0 2 rfl rfl)
theorem dX1_upper_3 : decode cX1_upper 3 = .ok (.ifCond .ne 17, 3) := dk_154 0 17 (dk_at dksX1_upper_0 3 rfl rfl)
theorem dX1_upper_6 : decode cX1_upper 6 = .ok (.aload_n 0, 1) := dk_42 (dk_at dksX1_upper_0 6 rfl rfl)
theorem dX1_upper_7 : decode cX1_upper 7 = .ok (.aload_n 0, 1) := dk_42 (dk_at dksX1_upper_0 7 rfl rfl)
theorem dX1_upper_8 : decode cX1_upper 8 = .ok (.getfield 9, 3) := dk_180 0 9 (dk_at dksX1_upper_0 8 rfl rfl)
theorem dX1_upper_11 : decode cX1_upper 11 = .ok (.invokestatic 64, 3) := dk_184 0 64 (dk_at dksX1_upper_0 11 rfl rfl)
theorem dX1_upper_14 : decode cX1_upper 14 = .ok (.putfield 9, 3) := dk_181 0 9 (dk_at dksX1_upper_0 14 rfl rfl)
theorem dX1_upper_17 : decode cX1_upper 17 = .ok (.goto 14, 3) := dk_167 0 14 (dk_at dksX1_upper_0 17 rfl rfl)
theorem dX1_upper_20 : decode cX1_upper 20 = .ok (.aload_n 0, 1) := dk_42 (dk_at dksX1_upper_0 20 rfl rfl)
theorem dX1_upper_21 : decode cX1_upper 21 = .ok (.aload_n 0, 1) := dk_42 (dk_at dksX1_upper_0 21 rfl rfl)
theorem dX1_upper_22 : decode cX1_upper 22 = .ok (.getfield 15, 3) := dk_180 0 15 (dk_at dksX1_upper_1 0 rfl rfl)
theorem dX1_upper_25 : decode cX1_upper 25 = .ok (.invokestatic 64, 3) := dk_184 0 64 (dk_at dksX1_upper_1 3 rfl rfl)
theorem dX1_upper_28 : decode cX1_upper 28 = .ok (.putfield 15, 3) := dk_181 0 15 (dk_at dksX1_upper_1 6 rfl rfl)
theorem dX1_upper_31 : decode cX1_upper 31 = .ok (.return_, 1) := dk_177 (dk_at dksX1_upper_1 9 rfl rfl)
abbrev cX1_alike : ByteArray := prog_4_method_11_code
def yX1_alike : MethodName := ⟨RX1, "alike", "()Z"⟩
def dkwX1_alike_0 : List UInt8 := [42, 180, 0, 9, 42, 180, 0, 15, 184, 0, 67, 172]
abbrev dktX1_alike_0 : List UInt8 := dkwX1_alike_0 ++ []
theorem dksX1_alike_0 : cX1_alike.data.toList.drop 0 = dktX1_alike_0 := by decide +kernel
theorem dX1_alike_0 : decode cX1_alike 0 = .ok (.aload_n 0, 1) := dk_42 (dk_at dksX1_alike_0 0 rfl rfl)
theorem dX1_alike_1 : decode cX1_alike 1 = .ok (.getfield 9, 3) := dk_180 0 9 (dk_at dksX1_alike_0 1 rfl rfl)
theorem dX1_alike_4 : decode cX1_alike 4 = .ok (.aload_n 0, 1) := dk_42 (dk_at dksX1_alike_0 4 rfl rfl)
theorem dX1_alike_5 : decode cX1_alike 5 = .ok (.getfield 15, 3) := dk_180 0 15 (dk_at dksX1_alike_0 5 rfl rfl)
theorem dX1_alike_8 : decode cX1_alike 8 = .ok (.invokestatic 67, 3) := dk_184 0 67 (dk_at dksX1_alike_0 8 rfl rfl)
theorem dX1_alike_11 : decode cX1_alike 11 = .ok (.ireturn, 1) := dk_172 (dk_at dksX1_alike_0 11 rfl rfl)
abbrev cX1_prefix : ByteArray := prog_4_method_5_code
def yX1_prefix : MethodName := ⟨RX1, "prefix", "()I"⟩
def dkwX1_prefix_0 : List UInt8 := [42, 180, 0, 9, 42, 180, 0, 15, 184, 0, 42, 182, 0, 19, 172]
abbrev dktX1_prefix_0 : List UInt8 := dkwX1_prefix_0 ++ []
theorem dksX1_prefix_0 : cX1_prefix.data.toList.drop 0 = dktX1_prefix_0 := by decide +kernel
theorem dX1_prefix_0 : decode cX1_prefix 0 = .ok (.aload_n 0, 1) := dk_42 (dk_at dksX1_prefix_0 0 rfl rfl)
theorem dX1_prefix_1 : decode cX1_prefix 1 = .ok (.getfield 9, 3) := dk_180 0 9 (dk_at dksX1_prefix_0 1 rfl rfl)
theorem dX1_prefix_4 : decode cX1_prefix 4 = .ok (.aload_n 0, 1) := dk_42 (dk_at dksX1_prefix_0 4 rfl rfl)
theorem dX1_prefix_5 : decode cX1_prefix 5 = .ok (.getfield 15, 3) := dk_180 0 15 (dk_at dksX1_prefix_0 5 rfl rfl)
theorem dX1_prefix_8 : decode cX1_prefix 8 = .ok (.invokestatic 42, 3) := dk_184 0 42 (dk_at dksX1_prefix_0 8 rfl rfl)
theorem dX1_prefix_11 : decode cX1_prefix 11 = .ok (.invokevirtual 19, 3) := dk_182 0 19 (dk_at dksX1_prefix_0 11 rfl rfl)
theorem dX1_prefix_14 : decode cX1_prefix 14 = .ok (.ireturn, 1) := dk_172 (dk_at dksX1_prefix_0 14 rfl rfl)
abbrev cX1_suffix : ByteArray := prog_4_method_6_code
def yX1_suffix : MethodName := ⟨RX1, "suffix", "()I"⟩
def dkwX1_suffix_0 : List UInt8 := [42, 180, 0, 9, 42, 180, 0, 15, 184, 0, 48, 182, 0, 19, 172]
abbrev dktX1_suffix_0 : List UInt8 := dkwX1_suffix_0 ++ []
theorem dksX1_suffix_0 : cX1_suffix.data.toList.drop 0 = dktX1_suffix_0 := by decide +kernel
theorem dX1_suffix_0 : decode cX1_suffix 0 = .ok (.aload_n 0, 1) := dk_42 (dk_at dksX1_suffix_0 0 rfl rfl)
theorem dX1_suffix_1 : decode cX1_suffix 1 = .ok (.getfield 9, 3) := dk_180 0 9 (dk_at dksX1_suffix_0 1 rfl rfl)
theorem dX1_suffix_4 : decode cX1_suffix 4 = .ok (.aload_n 0, 1) := dk_42 (dk_at dksX1_suffix_0 4 rfl rfl)
theorem dX1_suffix_5 : decode cX1_suffix 5 = .ok (.getfield 15, 3) := dk_180 0 15 (dk_at dksX1_suffix_0 5 rfl rfl)
theorem dX1_suffix_8 : decode cX1_suffix 8 = .ok (.invokestatic 48, 3) := dk_184 0 48 (dk_at dksX1_suffix_0 8 rfl rfl)
theorem dX1_suffix_11 : decode cX1_suffix 11 = .ok (.invokevirtual 19, 3) := dk_182 0 19 (dk_at dksX1_suffix_0 11 rfl rfl)
theorem dX1_suffix_14 : decode cX1_suffix 14 = .ok (.ireturn, 1) := dk_172 (dk_at dksX1_suffix_0 14 rfl rfl)
abbrev cX1_length : ByteArray := prog_4_method_12_code
def yX1_length : MethodName := ⟨RX1, "length", "(I)I"⟩
def dkwX1_length_0 : List UInt8 := [27, 4, 126, 154, 0, 13, 42, 180, 0, 9, 182, 0, 19, 167, 0, 10, 42, 180, 0, 15, 182, 0, 19, 172]
abbrev dktX1_length_0 : List UInt8 := dkwX1_length_0 ++ []
theorem dksX1_length_0 : cX1_length.data.toList.drop 0 = dktX1_length_0 := by decide +kernel
theorem dX1_length_0 : decode cX1_length 0 = .ok (.iload_n 1, 1) := dk_27 (dk_at dksX1_length_0 0 rfl rfl)
theorem dX1_length_1 : decode cX1_length 1 = .ok (.iconst 1, 1) := dk_4 (dk_at dksX1_length_0 1 rfl rfl)
theorem dX1_length_2 : decode cX1_length 2 = .ok (.iand, 1) := dk_126 (dk_at dksX1_length_0 2 rfl rfl)
theorem dX1_length_3 : decode cX1_length 3 = .ok (.ifCond .ne 13, 3) := dk_154 0 13 (dk_at dksX1_length_0 3 rfl rfl)
theorem dX1_length_6 : decode cX1_length 6 = .ok (.aload_n 0, 1) := dk_42 (dk_at dksX1_length_0 6 rfl rfl)
theorem dX1_length_7 : decode cX1_length 7 = .ok (.getfield 9, 3) := dk_180 0 9 (dk_at dksX1_length_0 7 rfl rfl)
theorem dX1_length_10 : decode cX1_length 10 = .ok (.invokevirtual 19, 3) := dk_182 0 19 (dk_at dksX1_length_0 10 rfl rfl)
theorem dX1_length_13 : decode cX1_length 13 = .ok (.goto 10, 3) := dk_167 0 10 (dk_at dksX1_length_0 13 rfl rfl)
theorem dX1_length_16 : decode cX1_length 16 = .ok (.aload_n 0, 1) := dk_42 (dk_at dksX1_length_0 16 rfl rfl)
theorem dX1_length_17 : decode cX1_length 17 = .ok (.getfield 15, 3) := dk_180 0 15 (dk_at dksX1_length_0 17 rfl rfl)
theorem dX1_length_20 : decode cX1_length 20 = .ok (.invokevirtual 19, 3) := dk_182 0 19 (dk_at dksX1_length_0 20 rfl rfl)
theorem dX1_length_23 : decode cX1_length 23 = .ok (.ireturn, 1) := dk_172 (dk_at dksX1_length_0 23 rfl rfl)
abbrev cX1_at : ByteArray := prog_4_method_13_code
def yX1_at : MethodName := ⟨RX1, "at", "(II)I"⟩
def dkwX1_at_1 : List UInt8 := [154, 0, 7, 2, 167, 0, 16, 45, 28, 18, 18, 126, 45, 182, 0, 19, 112, 182, 0, 71, 172]
abbrev dktX1_at_1 : List UInt8 := dkwX1_at_1 ++ []
def dkwX1_at_0 : List UInt8 := [27, 4, 126, 154, 0, 10, 42, 180, 0, 9, 167, 0, 7, 42, 180, 0, 15, 78, 45, 182, 0, 19]
abbrev dktX1_at_0 : List UInt8 := dkwX1_at_0 ++ dktX1_at_1
theorem dksX1_at_0 : cX1_at.data.toList.drop 0 = dktX1_at_0 := by decide +kernel
theorem dksX1_at_1 : cX1_at.data.toList.drop 22 = dktX1_at_1 := dk_seg dksX1_at_0 22 rfl rfl
theorem dX1_at_0 : decode cX1_at 0 = .ok (.iload_n 1, 1) := dk_27 (dk_at dksX1_at_0 0 rfl rfl)
theorem dX1_at_1 : decode cX1_at 1 = .ok (.iconst 1, 1) := dk_4 (dk_at dksX1_at_0 1 rfl rfl)
theorem dX1_at_2 : decode cX1_at 2 = .ok (.iand, 1) := dk_126 (dk_at dksX1_at_0 2 rfl rfl)
theorem dX1_at_3 : decode cX1_at 3 = .ok (.ifCond .ne 10, 3) := dk_154 0 10 (dk_at dksX1_at_0 3 rfl rfl)
theorem dX1_at_6 : decode cX1_at 6 = .ok (.aload_n 0, 1) := dk_42 (dk_at dksX1_at_0 6 rfl rfl)
theorem dX1_at_7 : decode cX1_at 7 = .ok (.getfield 9, 3) := dk_180 0 9 (dk_at dksX1_at_0 7 rfl rfl)
theorem dX1_at_10 : decode cX1_at 10 = .ok (.goto 7, 3) := dk_167 0 7 (dk_at dksX1_at_0 10 rfl rfl)
theorem dX1_at_13 : decode cX1_at 13 = .ok (.aload_n 0, 1) := dk_42 (dk_at dksX1_at_0 13 rfl rfl)
theorem dX1_at_14 : decode cX1_at 14 = .ok (.getfield 15, 3) := dk_180 0 15 (dk_at dksX1_at_0 14 rfl rfl)
theorem dX1_at_17 : decode cX1_at 17 = .ok (.astore_n 3, 1) := dk_78 (dk_at dksX1_at_0 17 rfl rfl)
theorem dX1_at_18 : decode cX1_at 18 = .ok (.aload_n 3, 1) := dk_45 (dk_at dksX1_at_0 18 rfl rfl)
theorem dX1_at_19 : decode cX1_at 19 = .ok (.invokevirtual 19, 3) := dk_182 0 19 (dk_at dksX1_at_0 19 rfl rfl)
theorem dX1_at_22 : decode cX1_at 22 = .ok (.ifCond .ne 7, 3) := dk_154 0 7 (dk_at dksX1_at_1 0 rfl rfl)
theorem dX1_at_25 : decode cX1_at 25 = .ok (.iconst (-1), 1) := dk_2 (dk_at dksX1_at_1 3 rfl rfl)
theorem dX1_at_26 : decode cX1_at 26 = .ok (.goto 16, 3) := dk_167 0 16 (dk_at dksX1_at_1 4 rfl rfl)
theorem dX1_at_29 : decode cX1_at 29 = .ok (.aload_n 3, 1) := dk_45 (dk_at dksX1_at_1 7 rfl rfl)
theorem dX1_at_30 : decode cX1_at 30 = .ok (.iload_n 2, 1) := dk_28 (dk_at dksX1_at_1 8 rfl rfl)
theorem dX1_at_31 : decode cX1_at 31 = .ok (.ldc 18, 2) := dk_18 18 (dk_at dksX1_at_1 9 rfl rfl)
theorem dX1_at_33 : decode cX1_at 33 = .ok (.iand, 1) := dk_126 (dk_at dksX1_at_1 11 rfl rfl)
theorem dX1_at_34 : decode cX1_at 34 = .ok (.aload_n 3, 1) := dk_45 (dk_at dksX1_at_1 12 rfl rfl)
theorem dX1_at_35 : decode cX1_at 35 = .ok (.invokevirtual 19, 3) := dk_182 0 19 (dk_at dksX1_at_1 13 rfl rfl)
theorem dX1_at_38 : decode cX1_at 38 = .ok (.irem, 1) := dk_112 (dk_at dksX1_at_1 16 rfl rfl)
theorem dX1_at_39 : decode cX1_at 39 = .ok (.invokevirtual 71, 3) := dk_182 0 71 (dk_at dksX1_at_1 17 rfl rfl)
theorem dX1_at_42 : decode cX1_at 42 = .ok (.ireturn, 1) := dk_172 (dk_at dksX1_at_1 20 rfl rfl)
/-! Strings -/
set_option maxRecDepth 100000
def RX2 : String := "Strings"
abbrev cX2_padStart : ByteArray := prog_3_method_1_code
def yX2_padStart : MethodName := ⟨RX2, "padStart", "(Ljava/lang/String;IC)Ljava/lang/String;"⟩
def dkwX2_padStart_2 : List UInt8 := [45, 42, 182, 0, 23, 87, 45, 182, 0, 26, 176]
abbrev dktX2_padStart_2 : List UInt8 := dkwX2_padStart_2 ++ []
def dkwX2_padStart_1 : List UInt8 := [42, 182, 0, 7, 54, 4, 21, 4, 27, 162, 0, 15, 45, 28, 182, 0, 19, 87, 132, 4, 1, 167, 255, 241]
abbrev dktX2_padStart_1 : List UInt8 := dkwX2_padStart_1 ++ dktX2_padStart_2
def dkwX2_padStart_0 : List UInt8 := [42, 184, 0, 1, 87, 42, 182, 0, 7, 27, 161, 0, 5, 42, 176, 187, 0, 13, 89, 27, 183, 0, 15, 78]
abbrev dktX2_padStart_0 : List UInt8 := dkwX2_padStart_0 ++ dktX2_padStart_1
theorem dksX2_padStart_0 : cX2_padStart.data.toList.drop 0 = dktX2_padStart_0 := by decide +kernel
theorem dksX2_padStart_1 : cX2_padStart.data.toList.drop 24 = dktX2_padStart_1 := dk_seg dksX2_padStart_0 24 rfl rfl
theorem dksX2_padStart_2 : cX2_padStart.data.toList.drop 48 = dktX2_padStart_2 := dk_seg dksX2_padStart_1 24 rfl rfl
theorem dX2_padStart_0 : decode cX2_padStart 0 = .ok (.aload_n 0, 1) := dk_42 (dk_at dksX2_padStart_0 0 rfl rfl)
theorem dX2_padStart_1 : decode cX2_padStart 1 = .ok (.invokestatic 1, 3) := dk_184 0 1 (dk_at dksX2_padStart_0 1 rfl rfl)
theorem dX2_padStart_4 : decode cX2_padStart 4 = .ok (.pop, 1) := dk_87 (dk_at dksX2_padStart_0 4 rfl rfl)
theorem dX2_padStart_5 : decode cX2_padStart 5 = .ok (.aload_n 0, 1) := dk_42 (dk_at dksX2_padStart_0 5 rfl rfl)
theorem dX2_padStart_6 : decode cX2_padStart 6 = .ok (.invokevirtual 7, 3) := dk_182 0 7 (dk_at dksX2_padStart_0 6 rfl rfl)
theorem dX2_padStart_9 : decode cX2_padStart 9 = .ok (.iload_n 1, 1) := dk_27 (dk_at dksX2_padStart_0 9 rfl rfl)
theorem dX2_padStart_10 : decode cX2_padStart 10 = .ok (.if_icmp .lt 5, 3) := dk_161 0 5 (dk_at dksX2_padStart_0 10 rfl rfl)
theorem dX2_padStart_13 : decode cX2_padStart 13 = .ok (.aload_n 0, 1) := dk_42 (dk_at dksX2_padStart_0 13 rfl rfl)
theorem dX2_padStart_14 : decode cX2_padStart 14 = .ok (.areturn, 1) := dk_176 (dk_at dksX2_padStart_0 14 rfl rfl)
theorem dX2_padStart_15 : decode cX2_padStart 15 = .ok (.new 13, 3) := dk_187 0 13 (dk_at dksX2_padStart_0 15 rfl rfl)
theorem dX2_padStart_18 : decode cX2_padStart 18 = .ok (.dup, 1) := dk_89 (dk_at dksX2_padStart_0 18 rfl rfl)
theorem dX2_padStart_19 : decode cX2_padStart 19 = .ok (.iload_n 1, 1) := dk_27 (dk_at dksX2_padStart_0 19 rfl rfl)
theorem dX2_padStart_20 : decode cX2_padStart 20 = .ok (.invokespecial 15, 3) := dk_183 0 15 (dk_at dksX2_padStart_0 20 rfl rfl)
theorem dX2_padStart_23 : decode cX2_padStart 23 = .ok (.astore_n 3, 1) := dk_78 (dk_at dksX2_padStart_0 23 rfl rfl)
theorem dX2_padStart_24 : decode cX2_padStart 24 = .ok (.aload_n 0, 1) := dk_42 (dk_at dksX2_padStart_1 0 rfl rfl)
theorem dX2_padStart_25 : decode cX2_padStart 25 = .ok (.invokevirtual 7, 3) := dk_182 0 7 (dk_at dksX2_padStart_1 1 rfl rfl)
theorem dX2_padStart_28 : decode cX2_padStart 28 = .ok (.istore 4, 2) := dk_54 4 (dk_at dksX2_padStart_1 4 rfl rfl)
theorem dX2_padStart_30 : decode cX2_padStart 30 = .ok (.iload 4, 2) := dk_21 4 (dk_at dksX2_padStart_1 6 rfl rfl)
theorem dX2_padStart_32 : decode cX2_padStart 32 = .ok (.iload_n 1, 1) := dk_27 (dk_at dksX2_padStart_1 8 rfl rfl)
theorem dX2_padStart_33 : decode cX2_padStart 33 = .ok (.if_icmp .ge 15, 3) := dk_162 0 15 (dk_at dksX2_padStart_1 9 rfl rfl)
theorem dX2_padStart_36 : decode cX2_padStart 36 = .ok (.aload_n 3, 1) := dk_45 (dk_at dksX2_padStart_1 12 rfl rfl)
theorem dX2_padStart_37 : decode cX2_padStart 37 = .ok (.iload_n 2, 1) := dk_28 (dk_at dksX2_padStart_1 13 rfl rfl)
theorem dX2_padStart_38 : decode cX2_padStart 38 = .ok (.invokevirtual 19, 3) := dk_182 0 19 (dk_at dksX2_padStart_1 14 rfl rfl)
theorem dX2_padStart_41 : decode cX2_padStart 41 = .ok (.pop, 1) := dk_87 (dk_at dksX2_padStart_1 17 rfl rfl)
theorem dX2_padStart_42 : decode cX2_padStart 42 = .ok (.iinc 4 1, 3) := dk_132 4 1 (dk_at dksX2_padStart_1 18 rfl rfl)
theorem dX2_padStart_45 : decode cX2_padStart 45 = .ok (.goto (-15), 3) := dk_167 255 241 (dk_at dksX2_padStart_1 21 rfl rfl)
theorem dX2_padStart_48 : decode cX2_padStart 48 = .ok (.aload_n 3, 1) := dk_45 (dk_at dksX2_padStart_2 0 rfl rfl)
theorem dX2_padStart_49 : decode cX2_padStart 49 = .ok (.aload_n 0, 1) := dk_42 (dk_at dksX2_padStart_2 1 rfl rfl)
theorem dX2_padStart_50 : decode cX2_padStart 50 = .ok (.invokevirtual 23, 3) := dk_182 0 23 (dk_at dksX2_padStart_2 2 rfl rfl)
theorem dX2_padStart_53 : decode cX2_padStart 53 = .ok (.pop, 1) := dk_87 (dk_at dksX2_padStart_2 5 rfl rfl)
theorem dX2_padStart_54 : decode cX2_padStart 54 = .ok (.aload_n 3, 1) := dk_45 (dk_at dksX2_padStart_2 6 rfl rfl)
theorem dX2_padStart_55 : decode cX2_padStart 55 = .ok (.invokevirtual 26, 3) := dk_182 0 26 (dk_at dksX2_padStart_2 7 rfl rfl)
theorem dX2_padStart_58 : decode cX2_padStart 58 = .ok (.areturn, 1) := dk_176 (dk_at dksX2_padStart_2 10 rfl rfl)
abbrev cX2_padEnd : ByteArray := prog_3_method_2_code
def yX2_padEnd : MethodName := ⟨RX2, "padEnd", "(Ljava/lang/String;IC)Ljava/lang/String;"⟩
def dkwX2_padEnd_2 : List UInt8 := [132, 4, 1, 167, 255, 241, 45, 182, 0, 26, 176]
abbrev dktX2_padEnd_2 : List UInt8 := dkwX2_padEnd_2 ++ []
def dkwX2_padEnd_1 : List UInt8 := [45, 42, 182, 0, 23, 87, 42, 182, 0, 7, 54, 4, 21, 4, 27, 162, 0, 15, 45, 28, 182, 0, 19, 87]
abbrev dktX2_padEnd_1 : List UInt8 := dkwX2_padEnd_1 ++ dktX2_padEnd_2
def dkwX2_padEnd_0 : List UInt8 := [42, 184, 0, 1, 87, 42, 182, 0, 7, 27, 161, 0, 5, 42, 176, 187, 0, 13, 89, 27, 183, 0, 15, 78]
abbrev dktX2_padEnd_0 : List UInt8 := dkwX2_padEnd_0 ++ dktX2_padEnd_1
theorem dksX2_padEnd_0 : cX2_padEnd.data.toList.drop 0 = dktX2_padEnd_0 := by decide +kernel
theorem dksX2_padEnd_1 : cX2_padEnd.data.toList.drop 24 = dktX2_padEnd_1 := dk_seg dksX2_padEnd_0 24 rfl rfl
theorem dksX2_padEnd_2 : cX2_padEnd.data.toList.drop 48 = dktX2_padEnd_2 := dk_seg dksX2_padEnd_1 24 rfl rfl
theorem dX2_padEnd_0 : decode cX2_padEnd 0 = .ok (.aload_n 0, 1) := dk_42 (dk_at dksX2_padEnd_0 0 rfl rfl)
theorem dX2_padEnd_1 : decode cX2_padEnd 1 = .ok (.invokestatic 1, 3) := dk_184 0 1 (dk_at dksX2_padEnd_0 1 rfl rfl)
theorem dX2_padEnd_4 : decode cX2_padEnd 4 = .ok (.pop, 1) := dk_87 (dk_at dksX2_padEnd_0 4 rfl rfl)
theorem dX2_padEnd_5 : decode cX2_padEnd 5 = .ok (.aload_n 0, 1) := dk_42 (dk_at dksX2_padEnd_0 5 rfl rfl)
theorem dX2_padEnd_6 : decode cX2_padEnd 6 = .ok (.invokevirtual 7, 3) := dk_182 0 7 (dk_at dksX2_padEnd_0 6 rfl rfl)
theorem dX2_padEnd_9 : decode cX2_padEnd 9 = .ok (.iload_n 1, 1) := dk_27 (dk_at dksX2_padEnd_0 9 rfl rfl)
theorem dX2_padEnd_10 : decode cX2_padEnd 10 = .ok (.if_icmp .lt 5, 3) := dk_161 0 5 (dk_at dksX2_padEnd_0 10 rfl rfl)
theorem dX2_padEnd_13 : decode cX2_padEnd 13 = .ok (.aload_n 0, 1) := dk_42 (dk_at dksX2_padEnd_0 13 rfl rfl)
theorem dX2_padEnd_14 : decode cX2_padEnd 14 = .ok (.areturn, 1) := dk_176 (dk_at dksX2_padEnd_0 14 rfl rfl)
theorem dX2_padEnd_15 : decode cX2_padEnd 15 = .ok (.new 13, 3) := dk_187 0 13 (dk_at dksX2_padEnd_0 15 rfl rfl)
theorem dX2_padEnd_18 : decode cX2_padEnd 18 = .ok (.dup, 1) := dk_89 (dk_at dksX2_padEnd_0 18 rfl rfl)
theorem dX2_padEnd_19 : decode cX2_padEnd 19 = .ok (.iload_n 1, 1) := dk_27 (dk_at dksX2_padEnd_0 19 rfl rfl)
theorem dX2_padEnd_20 : decode cX2_padEnd 20 = .ok (.invokespecial 15, 3) := dk_183 0 15 (dk_at dksX2_padEnd_0 20 rfl rfl)
theorem dX2_padEnd_23 : decode cX2_padEnd 23 = .ok (.astore_n 3, 1) := dk_78 (dk_at dksX2_padEnd_0 23 rfl rfl)
theorem dX2_padEnd_24 : decode cX2_padEnd 24 = .ok (.aload_n 3, 1) := dk_45 (dk_at dksX2_padEnd_1 0 rfl rfl)
theorem dX2_padEnd_25 : decode cX2_padEnd 25 = .ok (.aload_n 0, 1) := dk_42 (dk_at dksX2_padEnd_1 1 rfl rfl)
theorem dX2_padEnd_26 : decode cX2_padEnd 26 = .ok (.invokevirtual 23, 3) := dk_182 0 23 (dk_at dksX2_padEnd_1 2 rfl rfl)
theorem dX2_padEnd_29 : decode cX2_padEnd 29 = .ok (.pop, 1) := dk_87 (dk_at dksX2_padEnd_1 5 rfl rfl)
theorem dX2_padEnd_30 : decode cX2_padEnd 30 = .ok (.aload_n 0, 1) := dk_42 (dk_at dksX2_padEnd_1 6 rfl rfl)
theorem dX2_padEnd_31 : decode cX2_padEnd 31 = .ok (.invokevirtual 7, 3) := dk_182 0 7 (dk_at dksX2_padEnd_1 7 rfl rfl)
theorem dX2_padEnd_34 : decode cX2_padEnd 34 = .ok (.istore 4, 2) := dk_54 4 (dk_at dksX2_padEnd_1 10 rfl rfl)
theorem dX2_padEnd_36 : decode cX2_padEnd 36 = .ok (.iload 4, 2) := dk_21 4 (dk_at dksX2_padEnd_1 12 rfl rfl)
theorem dX2_padEnd_38 : decode cX2_padEnd 38 = .ok (.iload_n 1, 1) := dk_27 (dk_at dksX2_padEnd_1 14 rfl rfl)
theorem dX2_padEnd_39 : decode cX2_padEnd 39 = .ok (.if_icmp .ge 15, 3) := dk_162 0 15 (dk_at dksX2_padEnd_1 15 rfl rfl)
theorem dX2_padEnd_42 : decode cX2_padEnd 42 = .ok (.aload_n 3, 1) := dk_45 (dk_at dksX2_padEnd_1 18 rfl rfl)
theorem dX2_padEnd_43 : decode cX2_padEnd 43 = .ok (.iload_n 2, 1) := dk_28 (dk_at dksX2_padEnd_1 19 rfl rfl)
theorem dX2_padEnd_44 : decode cX2_padEnd 44 = .ok (.invokevirtual 19, 3) := dk_182 0 19 (dk_at dksX2_padEnd_1 20 rfl rfl)
theorem dX2_padEnd_47 : decode cX2_padEnd 47 = .ok (.pop, 1) := dk_87 (dk_at dksX2_padEnd_1 23 rfl rfl)
theorem dX2_padEnd_48 : decode cX2_padEnd 48 = .ok (.iinc 4 1, 3) := dk_132 4 1 (dk_at dksX2_padEnd_2 0 rfl rfl)
theorem dX2_padEnd_51 : decode cX2_padEnd 51 = .ok (.goto (-15), 3) := dk_167 255 241 (dk_at dksX2_padEnd_2 3 rfl rfl)
theorem dX2_padEnd_54 : decode cX2_padEnd 54 = .ok (.aload_n 3, 1) := dk_45 (dk_at dksX2_padEnd_2 6 rfl rfl)
theorem dX2_padEnd_55 : decode cX2_padEnd 55 = .ok (.invokevirtual 26, 3) := dk_182 0 26 (dk_at dksX2_padEnd_2 7 rfl rfl)
theorem dX2_padEnd_58 : decode cX2_padEnd 58 = .ok (.areturn, 1) := dk_176 (dk_at dksX2_padEnd_2 10 rfl rfl)
abbrev cX2_commonPrefix : ByteArray := prog_3_method_3_code
def yX2_commonPrefix : MethodName := ⟨RX2, "commonPrefix", "(Ljava/lang/CharSequence;Ljava/lang/CharSequence;)Ljava/lang/String;"⟩
def dkwX2_commonPrefix_4 : List UInt8 := [185, 0, 53, 1, 0, 176]
abbrev dktX2_commonPrefix_4 : List UInt8 := dkwX2_commonPrefix_4 ++ []
def dkwX2_commonPrefix_3 : List UInt8 := [43, 29, 4, 100, 184, 0, 43, 153, 0, 6, 132, 3, 255, 42, 3, 29, 185, 0, 49, 3, 0]
abbrev dktX2_commonPrefix_3 : List UInt8 := dkwX2_commonPrefix_3 ++ dktX2_commonPrefix_4
def dkwX2_commonPrefix_2 : List UInt8 := [185, 0, 39, 2, 0, 160, 0, 9, 132, 3, 1, 167, 255, 231, 42, 29, 4, 100, 184, 0, 43, 154, 0, 13]
abbrev dktX2_commonPrefix_2 : List UInt8 := dkwX2_commonPrefix_2 ++ dktX2_commonPrefix_3
def dkwX2_commonPrefix_1 : List UInt8 := [184, 0, 33, 61, 3, 62, 29, 28, 162, 0, 26, 42, 29, 185, 0, 39, 2, 0, 43, 29]
abbrev dktX2_commonPrefix_1 : List UInt8 := dkwX2_commonPrefix_1 ++ dktX2_commonPrefix_2
def dkwX2_commonPrefix_0 : List UInt8 := [42, 184, 0, 1, 87, 43, 184, 0, 1, 87, 42, 185, 0, 30, 1, 0, 43, 185, 0, 30, 1, 0]
abbrev dktX2_commonPrefix_0 : List UInt8 := dkwX2_commonPrefix_0 ++ dktX2_commonPrefix_1
theorem dksX2_commonPrefix_0 : cX2_commonPrefix.data.toList.drop 0 = dktX2_commonPrefix_0 := by decide +kernel
theorem dksX2_commonPrefix_1 : cX2_commonPrefix.data.toList.drop 22 = dktX2_commonPrefix_1 := dk_seg dksX2_commonPrefix_0 22 rfl rfl
theorem dksX2_commonPrefix_2 : cX2_commonPrefix.data.toList.drop 42 = dktX2_commonPrefix_2 := dk_seg dksX2_commonPrefix_1 20 rfl rfl
theorem dksX2_commonPrefix_3 : cX2_commonPrefix.data.toList.drop 66 = dktX2_commonPrefix_3 := dk_seg dksX2_commonPrefix_2 24 rfl rfl
theorem dksX2_commonPrefix_4 : cX2_commonPrefix.data.toList.drop 87 = dktX2_commonPrefix_4 := dk_seg dksX2_commonPrefix_3 21 rfl rfl
theorem dX2_commonPrefix_0 : decode cX2_commonPrefix 0 = .ok (.aload_n 0, 1) := dk_42 (dk_at dksX2_commonPrefix_0 0 rfl rfl)
theorem dX2_commonPrefix_1 : decode cX2_commonPrefix 1 = .ok (.invokestatic 1, 3) := dk_184 0 1 (dk_at dksX2_commonPrefix_0 1 rfl rfl)
theorem dX2_commonPrefix_4 : decode cX2_commonPrefix 4 = .ok (.pop, 1) := dk_87 (dk_at dksX2_commonPrefix_0 4 rfl rfl)
theorem dX2_commonPrefix_5 : decode cX2_commonPrefix 5 = .ok (.aload_n 1, 1) := dk_43 (dk_at dksX2_commonPrefix_0 5 rfl rfl)
theorem dX2_commonPrefix_6 : decode cX2_commonPrefix 6 = .ok (.invokestatic 1, 3) := dk_184 0 1 (dk_at dksX2_commonPrefix_0 6 rfl rfl)
theorem dX2_commonPrefix_9 : decode cX2_commonPrefix 9 = .ok (.pop, 1) := dk_87 (dk_at dksX2_commonPrefix_0 9 rfl rfl)
theorem dX2_commonPrefix_10 : decode cX2_commonPrefix 10 = .ok (.aload_n 0, 1) := dk_42 (dk_at dksX2_commonPrefix_0 10 rfl rfl)
theorem dX2_commonPrefix_11 : decode cX2_commonPrefix 11 = .ok (.invokeinterface 30 1, 5) := by decide +kernel
theorem dX2_commonPrefix_16 : decode cX2_commonPrefix 16 = .ok (.aload_n 1, 1) := dk_43 (dk_at dksX2_commonPrefix_0 16 rfl rfl)
theorem dX2_commonPrefix_17 : decode cX2_commonPrefix 17 = .ok (.invokeinterface 30 1, 5) := by decide +kernel
theorem dX2_commonPrefix_22 : decode cX2_commonPrefix 22 = .ok (.invokestatic 33, 3) := dk_184 0 33 (dk_at dksX2_commonPrefix_1 0 rfl rfl)
theorem dX2_commonPrefix_25 : decode cX2_commonPrefix 25 = .ok (.istore_n 2, 1) := dk_61 (dk_at dksX2_commonPrefix_1 3 rfl rfl)
theorem dX2_commonPrefix_26 : decode cX2_commonPrefix 26 = .ok (.iconst 0, 1) := dk_3 (dk_at dksX2_commonPrefix_1 4 rfl rfl)
theorem dX2_commonPrefix_27 : decode cX2_commonPrefix 27 = .ok (.istore_n 3, 1) := dk_62 (dk_at dksX2_commonPrefix_1 5 rfl rfl)
theorem dX2_commonPrefix_28 : decode cX2_commonPrefix 28 = .ok (.iload_n 3, 1) := dk_29 (dk_at dksX2_commonPrefix_1 6 rfl rfl)
theorem dX2_commonPrefix_29 : decode cX2_commonPrefix 29 = .ok (.iload_n 2, 1) := dk_28 (dk_at dksX2_commonPrefix_1 7 rfl rfl)
theorem dX2_commonPrefix_30 : decode cX2_commonPrefix 30 = .ok (.if_icmp .ge 26, 3) := dk_162 0 26 (dk_at dksX2_commonPrefix_1 8 rfl rfl)
theorem dX2_commonPrefix_33 : decode cX2_commonPrefix 33 = .ok (.aload_n 0, 1) := dk_42 (dk_at dksX2_commonPrefix_1 11 rfl rfl)
theorem dX2_commonPrefix_34 : decode cX2_commonPrefix 34 = .ok (.iload_n 3, 1) := dk_29 (dk_at dksX2_commonPrefix_1 12 rfl rfl)
theorem dX2_commonPrefix_35 : decode cX2_commonPrefix 35 = .ok (.invokeinterface 39 2, 5) := by decide +kernel
theorem dX2_commonPrefix_40 : decode cX2_commonPrefix 40 = .ok (.aload_n 1, 1) := dk_43 (dk_at dksX2_commonPrefix_1 18 rfl rfl)
theorem dX2_commonPrefix_41 : decode cX2_commonPrefix 41 = .ok (.iload_n 3, 1) := dk_29 (dk_at dksX2_commonPrefix_1 19 rfl rfl)
theorem dX2_commonPrefix_42 : decode cX2_commonPrefix 42 = .ok (.invokeinterface 39 2, 5) := by decide +kernel
theorem dX2_commonPrefix_47 : decode cX2_commonPrefix 47 = .ok (.if_icmp .ne 9, 3) := dk_160 0 9 (dk_at dksX2_commonPrefix_2 5 rfl rfl)
theorem dX2_commonPrefix_50 : decode cX2_commonPrefix 50 = .ok (.iinc 3 1, 3) := dk_132 3 1 (dk_at dksX2_commonPrefix_2 8 rfl rfl)
theorem dX2_commonPrefix_53 : decode cX2_commonPrefix 53 = .ok (.goto (-25), 3) := dk_167 255 231 (dk_at dksX2_commonPrefix_2 11 rfl rfl)
theorem dX2_commonPrefix_56 : decode cX2_commonPrefix 56 = .ok (.aload_n 0, 1) := dk_42 (dk_at dksX2_commonPrefix_2 14 rfl rfl)
theorem dX2_commonPrefix_57 : decode cX2_commonPrefix 57 = .ok (.iload_n 3, 1) := dk_29 (dk_at dksX2_commonPrefix_2 15 rfl rfl)
theorem dX2_commonPrefix_58 : decode cX2_commonPrefix 58 = .ok (.iconst 1, 1) := dk_4 (dk_at dksX2_commonPrefix_2 16 rfl rfl)
theorem dX2_commonPrefix_59 : decode cX2_commonPrefix 59 = .ok (.isub, 1) := dk_100 (dk_at dksX2_commonPrefix_2 17 rfl rfl)
theorem dX2_commonPrefix_60 : decode cX2_commonPrefix 60 = .ok (.invokestatic 43, 3) := dk_184 0 43 (dk_at dksX2_commonPrefix_2 18 rfl rfl)
theorem dX2_commonPrefix_63 : decode cX2_commonPrefix 63 = .ok (.ifCond .ne 13, 3) := dk_154 0 13 (dk_at dksX2_commonPrefix_2 21 rfl rfl)
theorem dX2_commonPrefix_66 : decode cX2_commonPrefix 66 = .ok (.aload_n 1, 1) := dk_43 (dk_at dksX2_commonPrefix_3 0 rfl rfl)
theorem dX2_commonPrefix_67 : decode cX2_commonPrefix 67 = .ok (.iload_n 3, 1) := dk_29 (dk_at dksX2_commonPrefix_3 1 rfl rfl)
theorem dX2_commonPrefix_68 : decode cX2_commonPrefix 68 = .ok (.iconst 1, 1) := dk_4 (dk_at dksX2_commonPrefix_3 2 rfl rfl)
theorem dX2_commonPrefix_69 : decode cX2_commonPrefix 69 = .ok (.isub, 1) := dk_100 (dk_at dksX2_commonPrefix_3 3 rfl rfl)
theorem dX2_commonPrefix_70 : decode cX2_commonPrefix 70 = .ok (.invokestatic 43, 3) := dk_184 0 43 (dk_at dksX2_commonPrefix_3 4 rfl rfl)
theorem dX2_commonPrefix_73 : decode cX2_commonPrefix 73 = .ok (.ifCond .eq 6, 3) := dk_153 0 6 (dk_at dksX2_commonPrefix_3 7 rfl rfl)
theorem dX2_commonPrefix_76 : decode cX2_commonPrefix 76 = .ok (.iinc 3 (-1), 3) := dk_132 3 255 (dk_at dksX2_commonPrefix_3 10 rfl rfl)
theorem dX2_commonPrefix_79 : decode cX2_commonPrefix 79 = .ok (.aload_n 0, 1) := dk_42 (dk_at dksX2_commonPrefix_3 13 rfl rfl)
theorem dX2_commonPrefix_80 : decode cX2_commonPrefix 80 = .ok (.iconst 0, 1) := dk_3 (dk_at dksX2_commonPrefix_3 14 rfl rfl)
theorem dX2_commonPrefix_81 : decode cX2_commonPrefix 81 = .ok (.iload_n 3, 1) := dk_29 (dk_at dksX2_commonPrefix_3 15 rfl rfl)
theorem dX2_commonPrefix_82 : decode cX2_commonPrefix 82 = .ok (.invokeinterface 49 3, 5) := by decide +kernel
theorem dX2_commonPrefix_87 : decode cX2_commonPrefix 87 = .ok (.invokeinterface 53 1, 5) := by decide +kernel
theorem dX2_commonPrefix_92 : decode cX2_commonPrefix 92 = .ok (.areturn, 1) := dk_176 (dk_at dksX2_commonPrefix_4 5 rfl rfl)
abbrev cX2_validSurrogatePairAt : ByteArray := prog_3_method_5_code
def yX2_validSurrogatePairAt : MethodName := ⟨RX2, "validSurrogatePairAt", "(Ljava/lang/CharSequence;I)Z"⟩
def dkwX2_validSurrogatePairAt_2 : List UInt8 := [167, 0, 4, 3, 172]
abbrev dktX2_validSurrogatePairAt_2 : List UInt8 := dkwX2_validSurrogatePairAt_2 ++ []
def dkwX2_validSurrogatePairAt_1 : List UInt8 := [184, 0, 54, 153, 0, 22, 42, 27, 4, 96, 185, 0, 39, 2, 0, 184, 0, 60, 153, 0, 7, 4]
abbrev dktX2_validSurrogatePairAt_1 : List UInt8 := dkwX2_validSurrogatePairAt_1 ++ dktX2_validSurrogatePairAt_2
def dkwX2_validSurrogatePairAt_0 : List UInt8 := [27, 155, 0, 47, 27, 42, 185, 0, 30, 1, 0, 5, 100, 163, 0, 35, 42, 27, 185, 0, 39, 2, 0]
abbrev dktX2_validSurrogatePairAt_0 : List UInt8 := dkwX2_validSurrogatePairAt_0 ++ dktX2_validSurrogatePairAt_1
theorem dksX2_validSurrogatePairAt_0 : cX2_validSurrogatePairAt.data.toList.drop 0 = dktX2_validSurrogatePairAt_0 := by decide +kernel
theorem dksX2_validSurrogatePairAt_1 : cX2_validSurrogatePairAt.data.toList.drop 23 = dktX2_validSurrogatePairAt_1 := dk_seg dksX2_validSurrogatePairAt_0 23 rfl rfl
theorem dksX2_validSurrogatePairAt_2 : cX2_validSurrogatePairAt.data.toList.drop 45 = dktX2_validSurrogatePairAt_2 := dk_seg dksX2_validSurrogatePairAt_1 22 rfl rfl
theorem dX2_validSurrogatePairAt_0 : decode cX2_validSurrogatePairAt 0 = .ok (.iload_n 1, 1) := dk_27 (dk_at dksX2_validSurrogatePairAt_0 0 rfl rfl)
theorem dX2_validSurrogatePairAt_1 : decode cX2_validSurrogatePairAt 1 = .ok (.ifCond .lt 47, 3) := dk_155 0 47 (dk_at dksX2_validSurrogatePairAt_0 1 rfl rfl)
theorem dX2_validSurrogatePairAt_4 : decode cX2_validSurrogatePairAt 4 = .ok (.iload_n 1, 1) := dk_27 (dk_at dksX2_validSurrogatePairAt_0 4 rfl rfl)
theorem dX2_validSurrogatePairAt_5 : decode cX2_validSurrogatePairAt 5 = .ok (.aload_n 0, 1) := dk_42 (dk_at dksX2_validSurrogatePairAt_0 5 rfl rfl)
theorem dX2_validSurrogatePairAt_6 : decode cX2_validSurrogatePairAt 6 = .ok (.invokeinterface 30 1, 5) := by decide +kernel
theorem dX2_validSurrogatePairAt_11 : decode cX2_validSurrogatePairAt 11 = .ok (.iconst 2, 1) := dk_5 (dk_at dksX2_validSurrogatePairAt_0 11 rfl rfl)
theorem dX2_validSurrogatePairAt_12 : decode cX2_validSurrogatePairAt 12 = .ok (.isub, 1) := dk_100 (dk_at dksX2_validSurrogatePairAt_0 12 rfl rfl)
theorem dX2_validSurrogatePairAt_13 : decode cX2_validSurrogatePairAt 13 = .ok (.if_icmp .gt 35, 3) := dk_163 0 35 (dk_at dksX2_validSurrogatePairAt_0 13 rfl rfl)
theorem dX2_validSurrogatePairAt_16 : decode cX2_validSurrogatePairAt 16 = .ok (.aload_n 0, 1) := dk_42 (dk_at dksX2_validSurrogatePairAt_0 16 rfl rfl)
theorem dX2_validSurrogatePairAt_17 : decode cX2_validSurrogatePairAt 17 = .ok (.iload_n 1, 1) := dk_27 (dk_at dksX2_validSurrogatePairAt_0 17 rfl rfl)
theorem dX2_validSurrogatePairAt_18 : decode cX2_validSurrogatePairAt 18 = .ok (.invokeinterface 39 2, 5) := by decide +kernel
theorem dX2_validSurrogatePairAt_23 : decode cX2_validSurrogatePairAt 23 = .ok (.invokestatic 54, 3) := dk_184 0 54 (dk_at dksX2_validSurrogatePairAt_1 0 rfl rfl)
theorem dX2_validSurrogatePairAt_26 : decode cX2_validSurrogatePairAt 26 = .ok (.ifCond .eq 22, 3) := dk_153 0 22 (dk_at dksX2_validSurrogatePairAt_1 3 rfl rfl)
theorem dX2_validSurrogatePairAt_29 : decode cX2_validSurrogatePairAt 29 = .ok (.aload_n 0, 1) := dk_42 (dk_at dksX2_validSurrogatePairAt_1 6 rfl rfl)
theorem dX2_validSurrogatePairAt_30 : decode cX2_validSurrogatePairAt 30 = .ok (.iload_n 1, 1) := dk_27 (dk_at dksX2_validSurrogatePairAt_1 7 rfl rfl)
theorem dX2_validSurrogatePairAt_31 : decode cX2_validSurrogatePairAt 31 = .ok (.iconst 1, 1) := dk_4 (dk_at dksX2_validSurrogatePairAt_1 8 rfl rfl)
theorem dX2_validSurrogatePairAt_32 : decode cX2_validSurrogatePairAt 32 = .ok (.iadd, 1) := dk_96 (dk_at dksX2_validSurrogatePairAt_1 9 rfl rfl)
theorem dX2_validSurrogatePairAt_33 : decode cX2_validSurrogatePairAt 33 = .ok (.invokeinterface 39 2, 5) := by decide +kernel
theorem dX2_validSurrogatePairAt_38 : decode cX2_validSurrogatePairAt 38 = .ok (.invokestatic 60, 3) := dk_184 0 60 (dk_at dksX2_validSurrogatePairAt_1 15 rfl rfl)
theorem dX2_validSurrogatePairAt_41 : decode cX2_validSurrogatePairAt 41 = .ok (.ifCond .eq 7, 3) := dk_153 0 7 (dk_at dksX2_validSurrogatePairAt_1 18 rfl rfl)
theorem dX2_validSurrogatePairAt_44 : decode cX2_validSurrogatePairAt 44 = .ok (.iconst 1, 1) := dk_4 (dk_at dksX2_validSurrogatePairAt_1 21 rfl rfl)
theorem dX2_validSurrogatePairAt_45 : decode cX2_validSurrogatePairAt 45 = .ok (.goto 4, 3) := dk_167 0 4 (dk_at dksX2_validSurrogatePairAt_2 0 rfl rfl)
theorem dX2_validSurrogatePairAt_48 : decode cX2_validSurrogatePairAt 48 = .ok (.iconst 0, 1) := dk_3 (dk_at dksX2_validSurrogatePairAt_2 3 rfl rfl)
theorem dX2_validSurrogatePairAt_49 : decode cX2_validSurrogatePairAt 49 = .ok (.ireturn, 1) := dk_172 (dk_at dksX2_validSurrogatePairAt_2 4 rfl rfl)
abbrev cX2_commonSuffix : ByteArray := prog_3_method_4_code
def yX2_commonSuffix : MethodName := ⟨RX2, "commonSuffix", "(Ljava/lang/CharSequence;Ljava/lang/CharSequence;)Ljava/lang/String;"⟩
def dkwX2_commonSuffix_5 : List UInt8 := [185, 0, 30, 1, 0, 29, 100, 42, 185, 0, 30, 1, 0, 185, 0, 49, 3, 0, 185, 0, 53, 1, 0, 176]
abbrev dktX2_commonSuffix_5 : List UInt8 := dkwX2_commonSuffix_5 ++ []
def dkwX2_commonSuffix_4 : List UInt8 := [43, 185, 0, 30, 1, 0, 29, 100, 4, 100, 184, 0, 43, 153, 0, 6, 132, 3, 255, 42, 42]
abbrev dktX2_commonSuffix_4 : List UInt8 := dkwX2_commonSuffix_4 ++ dktX2_commonSuffix_5
def dkwX2_commonSuffix_3 : List UInt8 := [132, 3, 1, 167, 255, 213, 42, 42, 185, 0, 30, 1, 0, 29, 100, 4, 100, 184, 0, 43, 154, 0, 20, 43]
abbrev dktX2_commonSuffix_3 : List UInt8 := dkwX2_commonSuffix_3 ++ dktX2_commonSuffix_4
def dkwX2_commonSuffix_2 : List UInt8 := [185, 0, 39, 2, 0, 43, 43, 185, 0, 30, 1, 0, 29, 100, 4, 100, 185, 0, 39, 2, 0, 160, 0, 9]
abbrev dktX2_commonSuffix_2 : List UInt8 := dkwX2_commonSuffix_2 ++ dktX2_commonSuffix_3
def dkwX2_commonSuffix_1 : List UInt8 := [184, 0, 33, 61, 3, 62, 29, 28, 162, 0, 44, 42, 42, 185, 0, 30, 1, 0, 29, 100, 4, 100]
abbrev dktX2_commonSuffix_1 : List UInt8 := dkwX2_commonSuffix_1 ++ dktX2_commonSuffix_2
def dkwX2_commonSuffix_0 : List UInt8 := [42, 184, 0, 1, 87, 43, 184, 0, 1, 87, 42, 185, 0, 30, 1, 0, 43, 185, 0, 30, 1, 0]
abbrev dktX2_commonSuffix_0 : List UInt8 := dkwX2_commonSuffix_0 ++ dktX2_commonSuffix_1
theorem dksX2_commonSuffix_0 : cX2_commonSuffix.data.toList.drop 0 = dktX2_commonSuffix_0 := by decide +kernel
theorem dksX2_commonSuffix_1 : cX2_commonSuffix.data.toList.drop 22 = dktX2_commonSuffix_1 := dk_seg dksX2_commonSuffix_0 22 rfl rfl
theorem dksX2_commonSuffix_2 : cX2_commonSuffix.data.toList.drop 44 = dktX2_commonSuffix_2 := dk_seg dksX2_commonSuffix_1 22 rfl rfl
theorem dksX2_commonSuffix_3 : cX2_commonSuffix.data.toList.drop 68 = dktX2_commonSuffix_3 := dk_seg dksX2_commonSuffix_2 24 rfl rfl
theorem dksX2_commonSuffix_4 : cX2_commonSuffix.data.toList.drop 92 = dktX2_commonSuffix_4 := dk_seg dksX2_commonSuffix_3 24 rfl rfl
theorem dksX2_commonSuffix_5 : cX2_commonSuffix.data.toList.drop 113 = dktX2_commonSuffix_5 := dk_seg dksX2_commonSuffix_4 21 rfl rfl
theorem dX2_commonSuffix_0 : decode cX2_commonSuffix 0 = .ok (.aload_n 0, 1) := dk_42 (dk_at dksX2_commonSuffix_0 0 rfl rfl)
theorem dX2_commonSuffix_1 : decode cX2_commonSuffix 1 = .ok (.invokestatic 1, 3) := dk_184 0 1 (dk_at dksX2_commonSuffix_0 1 rfl rfl)
theorem dX2_commonSuffix_4 : decode cX2_commonSuffix 4 = .ok (.pop, 1) := dk_87 (dk_at dksX2_commonSuffix_0 4 rfl rfl)
theorem dX2_commonSuffix_5 : decode cX2_commonSuffix 5 = .ok (.aload_n 1, 1) := dk_43 (dk_at dksX2_commonSuffix_0 5 rfl rfl)
theorem dX2_commonSuffix_6 : decode cX2_commonSuffix 6 = .ok (.invokestatic 1, 3) := dk_184 0 1 (dk_at dksX2_commonSuffix_0 6 rfl rfl)
theorem dX2_commonSuffix_9 : decode cX2_commonSuffix 9 = .ok (.pop, 1) := dk_87 (dk_at dksX2_commonSuffix_0 9 rfl rfl)
theorem dX2_commonSuffix_10 : decode cX2_commonSuffix 10 = .ok (.aload_n 0, 1) := dk_42 (dk_at dksX2_commonSuffix_0 10 rfl rfl)
theorem dX2_commonSuffix_11 : decode cX2_commonSuffix 11 = .ok (.invokeinterface 30 1, 5) := by decide +kernel
theorem dX2_commonSuffix_16 : decode cX2_commonSuffix 16 = .ok (.aload_n 1, 1) := dk_43 (dk_at dksX2_commonSuffix_0 16 rfl rfl)
theorem dX2_commonSuffix_17 : decode cX2_commonSuffix 17 = .ok (.invokeinterface 30 1, 5) := by decide +kernel
theorem dX2_commonSuffix_22 : decode cX2_commonSuffix 22 = .ok (.invokestatic 33, 3) := dk_184 0 33 (dk_at dksX2_commonSuffix_1 0 rfl rfl)
theorem dX2_commonSuffix_25 : decode cX2_commonSuffix 25 = .ok (.istore_n 2, 1) := dk_61 (dk_at dksX2_commonSuffix_1 3 rfl rfl)
theorem dX2_commonSuffix_26 : decode cX2_commonSuffix 26 = .ok (.iconst 0, 1) := dk_3 (dk_at dksX2_commonSuffix_1 4 rfl rfl)
theorem dX2_commonSuffix_27 : decode cX2_commonSuffix 27 = .ok (.istore_n 3, 1) := dk_62 (dk_at dksX2_commonSuffix_1 5 rfl rfl)
theorem dX2_commonSuffix_28 : decode cX2_commonSuffix 28 = .ok (.iload_n 3, 1) := dk_29 (dk_at dksX2_commonSuffix_1 6 rfl rfl)
theorem dX2_commonSuffix_29 : decode cX2_commonSuffix 29 = .ok (.iload_n 2, 1) := dk_28 (dk_at dksX2_commonSuffix_1 7 rfl rfl)
theorem dX2_commonSuffix_30 : decode cX2_commonSuffix 30 = .ok (.if_icmp .ge 44, 3) := dk_162 0 44 (dk_at dksX2_commonSuffix_1 8 rfl rfl)
theorem dX2_commonSuffix_33 : decode cX2_commonSuffix 33 = .ok (.aload_n 0, 1) := dk_42 (dk_at dksX2_commonSuffix_1 11 rfl rfl)
theorem dX2_commonSuffix_34 : decode cX2_commonSuffix 34 = .ok (.aload_n 0, 1) := dk_42 (dk_at dksX2_commonSuffix_1 12 rfl rfl)
theorem dX2_commonSuffix_35 : decode cX2_commonSuffix 35 = .ok (.invokeinterface 30 1, 5) := by decide +kernel
theorem dX2_commonSuffix_40 : decode cX2_commonSuffix 40 = .ok (.iload_n 3, 1) := dk_29 (dk_at dksX2_commonSuffix_1 18 rfl rfl)
theorem dX2_commonSuffix_41 : decode cX2_commonSuffix 41 = .ok (.isub, 1) := dk_100 (dk_at dksX2_commonSuffix_1 19 rfl rfl)
theorem dX2_commonSuffix_42 : decode cX2_commonSuffix 42 = .ok (.iconst 1, 1) := dk_4 (dk_at dksX2_commonSuffix_1 20 rfl rfl)
theorem dX2_commonSuffix_43 : decode cX2_commonSuffix 43 = .ok (.isub, 1) := dk_100 (dk_at dksX2_commonSuffix_1 21 rfl rfl)
theorem dX2_commonSuffix_44 : decode cX2_commonSuffix 44 = .ok (.invokeinterface 39 2, 5) := by decide +kernel
theorem dX2_commonSuffix_49 : decode cX2_commonSuffix 49 = .ok (.aload_n 1, 1) := dk_43 (dk_at dksX2_commonSuffix_2 5 rfl rfl)
theorem dX2_commonSuffix_50 : decode cX2_commonSuffix 50 = .ok (.aload_n 1, 1) := dk_43 (dk_at dksX2_commonSuffix_2 6 rfl rfl)
theorem dX2_commonSuffix_51 : decode cX2_commonSuffix 51 = .ok (.invokeinterface 30 1, 5) := by decide +kernel
theorem dX2_commonSuffix_56 : decode cX2_commonSuffix 56 = .ok (.iload_n 3, 1) := dk_29 (dk_at dksX2_commonSuffix_2 12 rfl rfl)
theorem dX2_commonSuffix_57 : decode cX2_commonSuffix 57 = .ok (.isub, 1) := dk_100 (dk_at dksX2_commonSuffix_2 13 rfl rfl)
theorem dX2_commonSuffix_58 : decode cX2_commonSuffix 58 = .ok (.iconst 1, 1) := dk_4 (dk_at dksX2_commonSuffix_2 14 rfl rfl)
theorem dX2_commonSuffix_59 : decode cX2_commonSuffix 59 = .ok (.isub, 1) := dk_100 (dk_at dksX2_commonSuffix_2 15 rfl rfl)
theorem dX2_commonSuffix_60 : decode cX2_commonSuffix 60 = .ok (.invokeinterface 39 2, 5) := by decide +kernel
theorem dX2_commonSuffix_65 : decode cX2_commonSuffix 65 = .ok (.if_icmp .ne 9, 3) := dk_160 0 9 (dk_at dksX2_commonSuffix_2 21 rfl rfl)
theorem dX2_commonSuffix_68 : decode cX2_commonSuffix 68 = .ok (.iinc 3 1, 3) := dk_132 3 1 (dk_at dksX2_commonSuffix_3 0 rfl rfl)
theorem dX2_commonSuffix_71 : decode cX2_commonSuffix 71 = .ok (.goto (-43), 3) := dk_167 255 213 (dk_at dksX2_commonSuffix_3 3 rfl rfl)
theorem dX2_commonSuffix_74 : decode cX2_commonSuffix 74 = .ok (.aload_n 0, 1) := dk_42 (dk_at dksX2_commonSuffix_3 6 rfl rfl)
theorem dX2_commonSuffix_75 : decode cX2_commonSuffix 75 = .ok (.aload_n 0, 1) := dk_42 (dk_at dksX2_commonSuffix_3 7 rfl rfl)
theorem dX2_commonSuffix_76 : decode cX2_commonSuffix 76 = .ok (.invokeinterface 30 1, 5) := by decide +kernel
theorem dX2_commonSuffix_81 : decode cX2_commonSuffix 81 = .ok (.iload_n 3, 1) := dk_29 (dk_at dksX2_commonSuffix_3 13 rfl rfl)
theorem dX2_commonSuffix_82 : decode cX2_commonSuffix 82 = .ok (.isub, 1) := dk_100 (dk_at dksX2_commonSuffix_3 14 rfl rfl)
theorem dX2_commonSuffix_83 : decode cX2_commonSuffix 83 = .ok (.iconst 1, 1) := dk_4 (dk_at dksX2_commonSuffix_3 15 rfl rfl)
theorem dX2_commonSuffix_84 : decode cX2_commonSuffix 84 = .ok (.isub, 1) := dk_100 (dk_at dksX2_commonSuffix_3 16 rfl rfl)
theorem dX2_commonSuffix_85 : decode cX2_commonSuffix 85 = .ok (.invokestatic 43, 3) := dk_184 0 43 (dk_at dksX2_commonSuffix_3 17 rfl rfl)
theorem dX2_commonSuffix_88 : decode cX2_commonSuffix 88 = .ok (.ifCond .ne 20, 3) := dk_154 0 20 (dk_at dksX2_commonSuffix_3 20 rfl rfl)
theorem dX2_commonSuffix_91 : decode cX2_commonSuffix 91 = .ok (.aload_n 1, 1) := dk_43 (dk_at dksX2_commonSuffix_3 23 rfl rfl)
theorem dX2_commonSuffix_92 : decode cX2_commonSuffix 92 = .ok (.aload_n 1, 1) := dk_43 (dk_at dksX2_commonSuffix_4 0 rfl rfl)
theorem dX2_commonSuffix_93 : decode cX2_commonSuffix 93 = .ok (.invokeinterface 30 1, 5) := by decide +kernel
theorem dX2_commonSuffix_98 : decode cX2_commonSuffix 98 = .ok (.iload_n 3, 1) := dk_29 (dk_at dksX2_commonSuffix_4 6 rfl rfl)
theorem dX2_commonSuffix_99 : decode cX2_commonSuffix 99 = .ok (.isub, 1) := dk_100 (dk_at dksX2_commonSuffix_4 7 rfl rfl)
theorem dX2_commonSuffix_100 : decode cX2_commonSuffix 100 = .ok (.iconst 1, 1) := dk_4 (dk_at dksX2_commonSuffix_4 8 rfl rfl)
theorem dX2_commonSuffix_101 : decode cX2_commonSuffix 101 = .ok (.isub, 1) := dk_100 (dk_at dksX2_commonSuffix_4 9 rfl rfl)
theorem dX2_commonSuffix_102 : decode cX2_commonSuffix 102 = .ok (.invokestatic 43, 3) := dk_184 0 43 (dk_at dksX2_commonSuffix_4 10 rfl rfl)
theorem dX2_commonSuffix_105 : decode cX2_commonSuffix 105 = .ok (.ifCond .eq 6, 3) := dk_153 0 6 (dk_at dksX2_commonSuffix_4 13 rfl rfl)
theorem dX2_commonSuffix_108 : decode cX2_commonSuffix 108 = .ok (.iinc 3 (-1), 3) := dk_132 3 255 (dk_at dksX2_commonSuffix_4 16 rfl rfl)
theorem dX2_commonSuffix_111 : decode cX2_commonSuffix 111 = .ok (.aload_n 0, 1) := dk_42 (dk_at dksX2_commonSuffix_4 19 rfl rfl)
theorem dX2_commonSuffix_112 : decode cX2_commonSuffix 112 = .ok (.aload_n 0, 1) := dk_42 (dk_at dksX2_commonSuffix_4 20 rfl rfl)
theorem dX2_commonSuffix_113 : decode cX2_commonSuffix 113 = .ok (.invokeinterface 30 1, 5) := by decide +kernel
theorem dX2_commonSuffix_118 : decode cX2_commonSuffix 118 = .ok (.iload_n 3, 1) := dk_29 (dk_at dksX2_commonSuffix_5 5 rfl rfl)
theorem dX2_commonSuffix_119 : decode cX2_commonSuffix 119 = .ok (.isub, 1) := dk_100 (dk_at dksX2_commonSuffix_5 6 rfl rfl)
theorem dX2_commonSuffix_120 : decode cX2_commonSuffix 120 = .ok (.aload_n 0, 1) := dk_42 (dk_at dksX2_commonSuffix_5 7 rfl rfl)
theorem dX2_commonSuffix_121 : decode cX2_commonSuffix 121 = .ok (.invokeinterface 30 1, 5) := by decide +kernel
theorem dX2_commonSuffix_126 : decode cX2_commonSuffix 126 = .ok (.invokeinterface 49 3, 5) := by decide +kernel
theorem dX2_commonSuffix_131 : decode cX2_commonSuffix 131 = .ok (.invokeinterface 53 1, 5) := by decide +kernel
theorem dX2_commonSuffix_136 : decode cX2_commonSuffix 136 = .ok (.areturn, 1) := dk_176 (dk_at dksX2_commonSuffix_5 23 rfl rfl)
/-! Preconditions -/
set_option maxRecDepth 100000
def RX3 : String := "Preconditions"
abbrev cX3_checkNotNull : ByteArray := prog_2_method_1_code
def yX3_checkNotNull : MethodName := ⟨RX3, "checkNotNull", "(Ljava/lang/Object;)Ljava/lang/Object;"⟩
theorem dX3_checkNotNull_0 : decode cX3_checkNotNull 0 = .ok (.aload_n 0, 1) := by decide +kernel
theorem dX3_checkNotNull_1 : decode cX3_checkNotNull 1 = .ok (.areturn, 1) := by decide +kernel
/-! Ascii -/
set_option maxRecDepth 100000
def RX4 : String := "Ascii"
abbrev cX4_toLowerCase : ByteArray := prog_1_method_1_code
def yX4_toLowerCase : MethodName := ⟨RX4, "toLowerCase", "(Ljava/lang/String;)Ljava/lang/String;"⟩
def dkwX4_toLowerCase_3 : List UInt8 := [42, 176]
abbrev dktX4_toLowerCase_3 : List UInt8 := dkwX4_toLowerCase_3 ++ []
def dkwX4_toLowerCase_2 : List UInt8 := [21, 4, 16, 32, 130, 146, 85, 132, 2, 1, 167, 255, 226, 45, 184, 0, 21, 176, 132, 2, 1, 167, 255, 194]
abbrev dktX4_toLowerCase_2 : List UInt8 := dkwX4_toLowerCase_2 ++ dktX4_toLowerCase_3
def dkwX4_toLowerCase_1 : List UInt8 := [182, 0, 17, 78, 28, 27, 162, 0, 31, 45, 28, 52, 54, 4, 21, 4, 184, 0, 11, 153, 0, 12, 45, 28]
abbrev dktX4_toLowerCase_1 : List UInt8 := dkwX4_toLowerCase_1 ++ dktX4_toLowerCase_2
def dkwX4_toLowerCase_0 : List UInt8 := [42, 182, 0, 1, 60, 3, 61, 28, 27, 162, 0, 63, 42, 28, 182, 0, 7, 184, 0, 11, 153, 0, 46, 42]
abbrev dktX4_toLowerCase_0 : List UInt8 := dkwX4_toLowerCase_0 ++ dktX4_toLowerCase_1
theorem dksX4_toLowerCase_0 : cX4_toLowerCase.data.toList.drop 0 = dktX4_toLowerCase_0 := by decide +kernel
theorem dksX4_toLowerCase_1 : cX4_toLowerCase.data.toList.drop 24 = dktX4_toLowerCase_1 := dk_seg dksX4_toLowerCase_0 24 rfl rfl
theorem dksX4_toLowerCase_2 : cX4_toLowerCase.data.toList.drop 48 = dktX4_toLowerCase_2 := dk_seg dksX4_toLowerCase_1 24 rfl rfl
theorem dksX4_toLowerCase_3 : cX4_toLowerCase.data.toList.drop 72 = dktX4_toLowerCase_3 := dk_seg dksX4_toLowerCase_2 24 rfl rfl
theorem dX4_toLowerCase_0 : decode cX4_toLowerCase 0 = .ok (.aload_n 0, 1) := dk_42 (dk_at dksX4_toLowerCase_0 0 rfl rfl)
theorem dX4_toLowerCase_1 : decode cX4_toLowerCase 1 = .ok (.invokevirtual 1, 3) := dk_182 0 1 (dk_at dksX4_toLowerCase_0 1 rfl rfl)
theorem dX4_toLowerCase_4 : decode cX4_toLowerCase 4 = .ok (.istore_n 1, 1) := dk_60 (dk_at dksX4_toLowerCase_0 4 rfl rfl)
theorem dX4_toLowerCase_5 : decode cX4_toLowerCase 5 = .ok (.iconst 0, 1) := dk_3 (dk_at dksX4_toLowerCase_0 5 rfl rfl)
theorem dX4_toLowerCase_6 : decode cX4_toLowerCase 6 = .ok (.istore_n 2, 1) := dk_61 (dk_at dksX4_toLowerCase_0 6 rfl rfl)
theorem dX4_toLowerCase_7 : decode cX4_toLowerCase 7 = .ok (.iload_n 2, 1) := dk_28 (dk_at dksX4_toLowerCase_0 7 rfl rfl)
theorem dX4_toLowerCase_8 : decode cX4_toLowerCase 8 = .ok (.iload_n 1, 1) := dk_27 (dk_at dksX4_toLowerCase_0 8 rfl rfl)
theorem dX4_toLowerCase_9 : decode cX4_toLowerCase 9 = .ok (.if_icmp .ge 63, 3) := dk_162 0 63 (dk_at dksX4_toLowerCase_0 9 rfl rfl)
theorem dX4_toLowerCase_12 : decode cX4_toLowerCase 12 = .ok (.aload_n 0, 1) := dk_42 (dk_at dksX4_toLowerCase_0 12 rfl rfl)
theorem dX4_toLowerCase_13 : decode cX4_toLowerCase 13 = .ok (.iload_n 2, 1) := dk_28 (dk_at dksX4_toLowerCase_0 13 rfl rfl)
theorem dX4_toLowerCase_14 : decode cX4_toLowerCase 14 = .ok (.invokevirtual 7, 3) := dk_182 0 7 (dk_at dksX4_toLowerCase_0 14 rfl rfl)
theorem dX4_toLowerCase_17 : decode cX4_toLowerCase 17 = .ok (.invokestatic 11, 3) := dk_184 0 11 (dk_at dksX4_toLowerCase_0 17 rfl rfl)
theorem dX4_toLowerCase_20 : decode cX4_toLowerCase 20 = .ok (.ifCond .eq 46, 3) := dk_153 0 46 (dk_at dksX4_toLowerCase_0 20 rfl rfl)
theorem dX4_toLowerCase_23 : decode cX4_toLowerCase 23 = .ok (.aload_n 0, 1) := dk_42 (dk_at dksX4_toLowerCase_0 23 rfl rfl)
theorem dX4_toLowerCase_24 : decode cX4_toLowerCase 24 = .ok (.invokevirtual 17, 3) := dk_182 0 17 (dk_at dksX4_toLowerCase_1 0 rfl rfl)
theorem dX4_toLowerCase_27 : decode cX4_toLowerCase 27 = .ok (.astore_n 3, 1) := dk_78 (dk_at dksX4_toLowerCase_1 3 rfl rfl)
theorem dX4_toLowerCase_28 : decode cX4_toLowerCase 28 = .ok (.iload_n 2, 1) := dk_28 (dk_at dksX4_toLowerCase_1 4 rfl rfl)
theorem dX4_toLowerCase_29 : decode cX4_toLowerCase 29 = .ok (.iload_n 1, 1) := dk_27 (dk_at dksX4_toLowerCase_1 5 rfl rfl)
theorem dX4_toLowerCase_30 : decode cX4_toLowerCase 30 = .ok (.if_icmp .ge 31, 3) := dk_162 0 31 (dk_at dksX4_toLowerCase_1 6 rfl rfl)
theorem dX4_toLowerCase_33 : decode cX4_toLowerCase 33 = .ok (.aload_n 3, 1) := dk_45 (dk_at dksX4_toLowerCase_1 9 rfl rfl)
theorem dX4_toLowerCase_34 : decode cX4_toLowerCase 34 = .ok (.iload_n 2, 1) := dk_28 (dk_at dksX4_toLowerCase_1 10 rfl rfl)
theorem dX4_toLowerCase_35 : decode cX4_toLowerCase 35 = .ok (.caload, 1) := dk_52 (dk_at dksX4_toLowerCase_1 11 rfl rfl)
theorem dX4_toLowerCase_36 : decode cX4_toLowerCase 36 = .ok (.istore 4, 2) := dk_54 4 (dk_at dksX4_toLowerCase_1 12 rfl rfl)
theorem dX4_toLowerCase_38 : decode cX4_toLowerCase 38 = .ok (.iload 4, 2) := dk_21 4 (dk_at dksX4_toLowerCase_1 14 rfl rfl)
theorem dX4_toLowerCase_40 : decode cX4_toLowerCase 40 = .ok (.invokestatic 11, 3) := dk_184 0 11 (dk_at dksX4_toLowerCase_1 16 rfl rfl)
theorem dX4_toLowerCase_43 : decode cX4_toLowerCase 43 = .ok (.ifCond .eq 12, 3) := dk_153 0 12 (dk_at dksX4_toLowerCase_1 19 rfl rfl)
theorem dX4_toLowerCase_46 : decode cX4_toLowerCase 46 = .ok (.aload_n 3, 1) := dk_45 (dk_at dksX4_toLowerCase_1 22 rfl rfl)
theorem dX4_toLowerCase_47 : decode cX4_toLowerCase 47 = .ok (.iload_n 2, 1) := dk_28 (dk_at dksX4_toLowerCase_1 23 rfl rfl)
theorem dX4_toLowerCase_48 : decode cX4_toLowerCase 48 = .ok (.iload 4, 2) := dk_21 4 (dk_at dksX4_toLowerCase_2 0 rfl rfl)
theorem dX4_toLowerCase_50 : decode cX4_toLowerCase 50 = .ok (.bipush 32, 2) := dk_16 32 (dk_at dksX4_toLowerCase_2 2 rfl rfl)
theorem dX4_toLowerCase_52 : decode cX4_toLowerCase 52 = .ok (.ixor, 1) := dk_130 (dk_at dksX4_toLowerCase_2 4 rfl rfl)
theorem dX4_toLowerCase_53 : decode cX4_toLowerCase 53 = .ok (.i2c, 1) := dk_146 (dk_at dksX4_toLowerCase_2 5 rfl rfl)
theorem dX4_toLowerCase_54 : decode cX4_toLowerCase 54 = .ok (.castore, 1) := dk_85 (dk_at dksX4_toLowerCase_2 6 rfl rfl)
theorem dX4_toLowerCase_55 : decode cX4_toLowerCase 55 = .ok (.iinc 2 1, 3) := dk_132 2 1 (dk_at dksX4_toLowerCase_2 7 rfl rfl)
theorem dX4_toLowerCase_58 : decode cX4_toLowerCase 58 = .ok (.goto (-30), 3) := dk_167 255 226 (dk_at dksX4_toLowerCase_2 10 rfl rfl)
theorem dX4_toLowerCase_61 : decode cX4_toLowerCase 61 = .ok (.aload_n 3, 1) := dk_45 (dk_at dksX4_toLowerCase_2 13 rfl rfl)
theorem dX4_toLowerCase_62 : decode cX4_toLowerCase 62 = .ok (.invokestatic 21, 3) := dk_184 0 21 (dk_at dksX4_toLowerCase_2 14 rfl rfl)
theorem dX4_toLowerCase_65 : decode cX4_toLowerCase 65 = .ok (.areturn, 1) := dk_176 (dk_at dksX4_toLowerCase_2 17 rfl rfl)
theorem dX4_toLowerCase_66 : decode cX4_toLowerCase 66 = .ok (.iinc 2 1, 3) := dk_132 2 1 (dk_at dksX4_toLowerCase_2 18 rfl rfl)
theorem dX4_toLowerCase_69 : decode cX4_toLowerCase 69 = .ok (.goto (-62), 3) := dk_167 255 194 (dk_at dksX4_toLowerCase_2 21 rfl rfl)
theorem dX4_toLowerCase_72 : decode cX4_toLowerCase 72 = .ok (.aload_n 0, 1) := dk_42 (dk_at dksX4_toLowerCase_3 0 rfl rfl)
theorem dX4_toLowerCase_73 : decode cX4_toLowerCase 73 = .ok (.areturn, 1) := dk_176 (dk_at dksX4_toLowerCase_3 1 rfl rfl)
abbrev cX4_isUpperCase : ByteArray := prog_1_method_4_code
def yX4_isUpperCase : MethodName := ⟨RX4, "isUpperCase", "(C)Z"⟩
def dkwX4_isUpperCase_0 : List UInt8 := [26, 16, 65, 161, 0, 13, 26, 16, 90, 163, 0, 7, 4, 167, 0, 4, 3, 172]
abbrev dktX4_isUpperCase_0 : List UInt8 := dkwX4_isUpperCase_0 ++ []
theorem dksX4_isUpperCase_0 : cX4_isUpperCase.data.toList.drop 0 = dktX4_isUpperCase_0 := by decide +kernel
theorem dX4_isUpperCase_0 : decode cX4_isUpperCase 0 = .ok (.iload_n 0, 1) := dk_26 (dk_at dksX4_isUpperCase_0 0 rfl rfl)
theorem dX4_isUpperCase_1 : decode cX4_isUpperCase 1 = .ok (.bipush 65, 2) := dk_16 65 (dk_at dksX4_isUpperCase_0 1 rfl rfl)
theorem dX4_isUpperCase_3 : decode cX4_isUpperCase 3 = .ok (.if_icmp .lt 13, 3) := dk_161 0 13 (dk_at dksX4_isUpperCase_0 3 rfl rfl)
theorem dX4_isUpperCase_6 : decode cX4_isUpperCase 6 = .ok (.iload_n 0, 1) := dk_26 (dk_at dksX4_isUpperCase_0 6 rfl rfl)
theorem dX4_isUpperCase_7 : decode cX4_isUpperCase 7 = .ok (.bipush 90, 2) := dk_16 90 (dk_at dksX4_isUpperCase_0 7 rfl rfl)
theorem dX4_isUpperCase_9 : decode cX4_isUpperCase 9 = .ok (.if_icmp .gt 7, 3) := dk_163 0 7 (dk_at dksX4_isUpperCase_0 9 rfl rfl)
theorem dX4_isUpperCase_12 : decode cX4_isUpperCase 12 = .ok (.iconst 1, 1) := dk_4 (dk_at dksX4_isUpperCase_0 12 rfl rfl)
theorem dX4_isUpperCase_13 : decode cX4_isUpperCase 13 = .ok (.goto 4, 3) := dk_167 0 4 (dk_at dksX4_isUpperCase_0 13 rfl rfl)
theorem dX4_isUpperCase_16 : decode cX4_isUpperCase 16 = .ok (.iconst 0, 1) := dk_3 (dk_at dksX4_isUpperCase_0 16 rfl rfl)
theorem dX4_isUpperCase_17 : decode cX4_isUpperCase 17 = .ok (.ireturn, 1) := dk_172 (dk_at dksX4_isUpperCase_0 17 rfl rfl)
abbrev cX4_toUpperCase : ByteArray := prog_1_method_2_code
def yX4_toUpperCase : MethodName := ⟨RX4, "toUpperCase", "(Ljava/lang/String;)Ljava/lang/String;"⟩
def dkwX4_toUpperCase_3 : List UInt8 := [42, 176]
abbrev dktX4_toUpperCase_3 : List UInt8 := dkwX4_toUpperCase_3 ++ []
def dkwX4_toUpperCase_2 : List UInt8 := [21, 4, 16, 32, 130, 146, 85, 132, 2, 1, 167, 255, 226, 45, 184, 0, 21, 176, 132, 2, 1, 167, 255, 194]
abbrev dktX4_toUpperCase_2 : List UInt8 := dkwX4_toUpperCase_2 ++ dktX4_toUpperCase_3
def dkwX4_toUpperCase_1 : List UInt8 := [182, 0, 17, 78, 28, 27, 162, 0, 31, 45, 28, 52, 54, 4, 21, 4, 184, 0, 25, 153, 0, 12, 45, 28]
abbrev dktX4_toUpperCase_1 : List UInt8 := dkwX4_toUpperCase_1 ++ dktX4_toUpperCase_2
def dkwX4_toUpperCase_0 : List UInt8 := [42, 182, 0, 1, 60, 3, 61, 28, 27, 162, 0, 63, 42, 28, 182, 0, 7, 184, 0, 25, 153, 0, 46, 42]
abbrev dktX4_toUpperCase_0 : List UInt8 := dkwX4_toUpperCase_0 ++ dktX4_toUpperCase_1
theorem dksX4_toUpperCase_0 : cX4_toUpperCase.data.toList.drop 0 = dktX4_toUpperCase_0 := by decide +kernel
theorem dksX4_toUpperCase_1 : cX4_toUpperCase.data.toList.drop 24 = dktX4_toUpperCase_1 := dk_seg dksX4_toUpperCase_0 24 rfl rfl
theorem dksX4_toUpperCase_2 : cX4_toUpperCase.data.toList.drop 48 = dktX4_toUpperCase_2 := dk_seg dksX4_toUpperCase_1 24 rfl rfl
theorem dksX4_toUpperCase_3 : cX4_toUpperCase.data.toList.drop 72 = dktX4_toUpperCase_3 := dk_seg dksX4_toUpperCase_2 24 rfl rfl
theorem dX4_toUpperCase_0 : decode cX4_toUpperCase 0 = .ok (.aload_n 0, 1) := dk_42 (dk_at dksX4_toUpperCase_0 0 rfl rfl)
theorem dX4_toUpperCase_1 : decode cX4_toUpperCase 1 = .ok (.invokevirtual 1, 3) := dk_182 0 1 (dk_at dksX4_toUpperCase_0 1 rfl rfl)
theorem dX4_toUpperCase_4 : decode cX4_toUpperCase 4 = .ok (.istore_n 1, 1) := dk_60 (dk_at dksX4_toUpperCase_0 4 rfl rfl)
theorem dX4_toUpperCase_5 : decode cX4_toUpperCase 5 = .ok (.iconst 0, 1) := dk_3 (dk_at dksX4_toUpperCase_0 5 rfl rfl)
theorem dX4_toUpperCase_6 : decode cX4_toUpperCase 6 = .ok (.istore_n 2, 1) := dk_61 (dk_at dksX4_toUpperCase_0 6 rfl rfl)
theorem dX4_toUpperCase_7 : decode cX4_toUpperCase 7 = .ok (.iload_n 2, 1) := dk_28 (dk_at dksX4_toUpperCase_0 7 rfl rfl)
theorem dX4_toUpperCase_8 : decode cX4_toUpperCase 8 = .ok (.iload_n 1, 1) := dk_27 (dk_at dksX4_toUpperCase_0 8 rfl rfl)
theorem dX4_toUpperCase_9 : decode cX4_toUpperCase 9 = .ok (.if_icmp .ge 63, 3) := dk_162 0 63 (dk_at dksX4_toUpperCase_0 9 rfl rfl)
theorem dX4_toUpperCase_12 : decode cX4_toUpperCase 12 = .ok (.aload_n 0, 1) := dk_42 (dk_at dksX4_toUpperCase_0 12 rfl rfl)
theorem dX4_toUpperCase_13 : decode cX4_toUpperCase 13 = .ok (.iload_n 2, 1) := dk_28 (dk_at dksX4_toUpperCase_0 13 rfl rfl)
theorem dX4_toUpperCase_14 : decode cX4_toUpperCase 14 = .ok (.invokevirtual 7, 3) := dk_182 0 7 (dk_at dksX4_toUpperCase_0 14 rfl rfl)
theorem dX4_toUpperCase_17 : decode cX4_toUpperCase 17 = .ok (.invokestatic 25, 3) := dk_184 0 25 (dk_at dksX4_toUpperCase_0 17 rfl rfl)
theorem dX4_toUpperCase_20 : decode cX4_toUpperCase 20 = .ok (.ifCond .eq 46, 3) := dk_153 0 46 (dk_at dksX4_toUpperCase_0 20 rfl rfl)
theorem dX4_toUpperCase_23 : decode cX4_toUpperCase 23 = .ok (.aload_n 0, 1) := dk_42 (dk_at dksX4_toUpperCase_0 23 rfl rfl)
theorem dX4_toUpperCase_24 : decode cX4_toUpperCase 24 = .ok (.invokevirtual 17, 3) := dk_182 0 17 (dk_at dksX4_toUpperCase_1 0 rfl rfl)
theorem dX4_toUpperCase_27 : decode cX4_toUpperCase 27 = .ok (.astore_n 3, 1) := dk_78 (dk_at dksX4_toUpperCase_1 3 rfl rfl)
theorem dX4_toUpperCase_28 : decode cX4_toUpperCase 28 = .ok (.iload_n 2, 1) := dk_28 (dk_at dksX4_toUpperCase_1 4 rfl rfl)
theorem dX4_toUpperCase_29 : decode cX4_toUpperCase 29 = .ok (.iload_n 1, 1) := dk_27 (dk_at dksX4_toUpperCase_1 5 rfl rfl)
theorem dX4_toUpperCase_30 : decode cX4_toUpperCase 30 = .ok (.if_icmp .ge 31, 3) := dk_162 0 31 (dk_at dksX4_toUpperCase_1 6 rfl rfl)
theorem dX4_toUpperCase_33 : decode cX4_toUpperCase 33 = .ok (.aload_n 3, 1) := dk_45 (dk_at dksX4_toUpperCase_1 9 rfl rfl)
theorem dX4_toUpperCase_34 : decode cX4_toUpperCase 34 = .ok (.iload_n 2, 1) := dk_28 (dk_at dksX4_toUpperCase_1 10 rfl rfl)
theorem dX4_toUpperCase_35 : decode cX4_toUpperCase 35 = .ok (.caload, 1) := dk_52 (dk_at dksX4_toUpperCase_1 11 rfl rfl)
theorem dX4_toUpperCase_36 : decode cX4_toUpperCase 36 = .ok (.istore 4, 2) := dk_54 4 (dk_at dksX4_toUpperCase_1 12 rfl rfl)
theorem dX4_toUpperCase_38 : decode cX4_toUpperCase 38 = .ok (.iload 4, 2) := dk_21 4 (dk_at dksX4_toUpperCase_1 14 rfl rfl)
theorem dX4_toUpperCase_40 : decode cX4_toUpperCase 40 = .ok (.invokestatic 25, 3) := dk_184 0 25 (dk_at dksX4_toUpperCase_1 16 rfl rfl)
theorem dX4_toUpperCase_43 : decode cX4_toUpperCase 43 = .ok (.ifCond .eq 12, 3) := dk_153 0 12 (dk_at dksX4_toUpperCase_1 19 rfl rfl)
theorem dX4_toUpperCase_46 : decode cX4_toUpperCase 46 = .ok (.aload_n 3, 1) := dk_45 (dk_at dksX4_toUpperCase_1 22 rfl rfl)
theorem dX4_toUpperCase_47 : decode cX4_toUpperCase 47 = .ok (.iload_n 2, 1) := dk_28 (dk_at dksX4_toUpperCase_1 23 rfl rfl)
theorem dX4_toUpperCase_48 : decode cX4_toUpperCase 48 = .ok (.iload 4, 2) := dk_21 4 (dk_at dksX4_toUpperCase_2 0 rfl rfl)
theorem dX4_toUpperCase_50 : decode cX4_toUpperCase 50 = .ok (.bipush 32, 2) := dk_16 32 (dk_at dksX4_toUpperCase_2 2 rfl rfl)
theorem dX4_toUpperCase_52 : decode cX4_toUpperCase 52 = .ok (.ixor, 1) := dk_130 (dk_at dksX4_toUpperCase_2 4 rfl rfl)
theorem dX4_toUpperCase_53 : decode cX4_toUpperCase 53 = .ok (.i2c, 1) := dk_146 (dk_at dksX4_toUpperCase_2 5 rfl rfl)
theorem dX4_toUpperCase_54 : decode cX4_toUpperCase 54 = .ok (.castore, 1) := dk_85 (dk_at dksX4_toUpperCase_2 6 rfl rfl)
theorem dX4_toUpperCase_55 : decode cX4_toUpperCase 55 = .ok (.iinc 2 1, 3) := dk_132 2 1 (dk_at dksX4_toUpperCase_2 7 rfl rfl)
theorem dX4_toUpperCase_58 : decode cX4_toUpperCase 58 = .ok (.goto (-30), 3) := dk_167 255 226 (dk_at dksX4_toUpperCase_2 10 rfl rfl)
theorem dX4_toUpperCase_61 : decode cX4_toUpperCase 61 = .ok (.aload_n 3, 1) := dk_45 (dk_at dksX4_toUpperCase_2 13 rfl rfl)
theorem dX4_toUpperCase_62 : decode cX4_toUpperCase 62 = .ok (.invokestatic 21, 3) := dk_184 0 21 (dk_at dksX4_toUpperCase_2 14 rfl rfl)
theorem dX4_toUpperCase_65 : decode cX4_toUpperCase 65 = .ok (.areturn, 1) := dk_176 (dk_at dksX4_toUpperCase_2 17 rfl rfl)
theorem dX4_toUpperCase_66 : decode cX4_toUpperCase 66 = .ok (.iinc 2 1, 3) := dk_132 2 1 (dk_at dksX4_toUpperCase_2 18 rfl rfl)
theorem dX4_toUpperCase_69 : decode cX4_toUpperCase 69 = .ok (.goto (-62), 3) := dk_167 255 194 (dk_at dksX4_toUpperCase_2 21 rfl rfl)
theorem dX4_toUpperCase_72 : decode cX4_toUpperCase 72 = .ok (.aload_n 0, 1) := dk_42 (dk_at dksX4_toUpperCase_3 0 rfl rfl)
theorem dX4_toUpperCase_73 : decode cX4_toUpperCase 73 = .ok (.areturn, 1) := dk_176 (dk_at dksX4_toUpperCase_3 1 rfl rfl)
abbrev cX4_isLowerCase : ByteArray := prog_1_method_3_code
def yX4_isLowerCase : MethodName := ⟨RX4, "isLowerCase", "(C)Z"⟩
def dkwX4_isLowerCase_0 : List UInt8 := [26, 16, 97, 161, 0, 13, 26, 16, 122, 163, 0, 7, 4, 167, 0, 4, 3, 172]
abbrev dktX4_isLowerCase_0 : List UInt8 := dkwX4_isLowerCase_0 ++ []
theorem dksX4_isLowerCase_0 : cX4_isLowerCase.data.toList.drop 0 = dktX4_isLowerCase_0 := by decide +kernel
theorem dX4_isLowerCase_0 : decode cX4_isLowerCase 0 = .ok (.iload_n 0, 1) := dk_26 (dk_at dksX4_isLowerCase_0 0 rfl rfl)
theorem dX4_isLowerCase_1 : decode cX4_isLowerCase 1 = .ok (.bipush 97, 2) := dk_16 97 (dk_at dksX4_isLowerCase_0 1 rfl rfl)
theorem dX4_isLowerCase_3 : decode cX4_isLowerCase 3 = .ok (.if_icmp .lt 13, 3) := dk_161 0 13 (dk_at dksX4_isLowerCase_0 3 rfl rfl)
theorem dX4_isLowerCase_6 : decode cX4_isLowerCase 6 = .ok (.iload_n 0, 1) := dk_26 (dk_at dksX4_isLowerCase_0 6 rfl rfl)
theorem dX4_isLowerCase_7 : decode cX4_isLowerCase 7 = .ok (.bipush 122, 2) := dk_16 122 (dk_at dksX4_isLowerCase_0 7 rfl rfl)
theorem dX4_isLowerCase_9 : decode cX4_isLowerCase 9 = .ok (.if_icmp .gt 7, 3) := dk_163 0 7 (dk_at dksX4_isLowerCase_0 9 rfl rfl)
theorem dX4_isLowerCase_12 : decode cX4_isLowerCase 12 = .ok (.iconst 1, 1) := dk_4 (dk_at dksX4_isLowerCase_0 12 rfl rfl)
theorem dX4_isLowerCase_13 : decode cX4_isLowerCase 13 = .ok (.goto 4, 3) := dk_167 0 4 (dk_at dksX4_isLowerCase_0 13 rfl rfl)
theorem dX4_isLowerCase_16 : decode cX4_isLowerCase 16 = .ok (.iconst 0, 1) := dk_3 (dk_at dksX4_isLowerCase_0 16 rfl rfl)
theorem dX4_isLowerCase_17 : decode cX4_isLowerCase 17 = .ok (.ireturn, 1) := dk_172 (dk_at dksX4_isLowerCase_0 17 rfl rfl)
abbrev cX4_equalsIgnoreCase : ByteArray := prog_1_method_5_code
def yX4_equalsIgnoreCase : MethodName := ⟨RX4, "equalsIgnoreCase", "(Ljava/lang/CharSequence;Ljava/lang/CharSequence;)Z"⟩
def dkwX4_equalsIgnoreCase_4 : List UInt8 := [132, 3, 1, 167, 255, 191, 4, 172]
abbrev dktX4_equalsIgnoreCase_4 : List UInt8 := dkwX4_equalsIgnoreCase_4 ++ []
def dkwX4_equalsIgnoreCase_3 : List UInt8 := [21, 6, 16, 26, 162, 0, 16, 21, 6, 21, 5, 184, 0, 32, 160, 0, 6, 167, 0, 5, 3, 172]
abbrev dktX4_equalsIgnoreCase_3 : List UInt8 := dkwX4_equalsIgnoreCase_3 ++ dktX4_equalsIgnoreCase_4
def dkwX4_equalsIgnoreCase_2 : List UInt8 := [185, 0, 31, 2, 0, 54, 5, 21, 4, 21, 5, 160, 0, 6, 167, 0, 32, 21, 4, 184, 0, 32, 54, 6]
abbrev dktX4_equalsIgnoreCase_2 : List UInt8 := dkwX4_equalsIgnoreCase_2 ++ dktX4_equalsIgnoreCase_3
def dkwX4_equalsIgnoreCase_1 : List UInt8 := [3, 172, 3, 62, 29, 28, 162, 0, 66, 42, 29, 185, 0, 31, 2, 0, 54, 4, 43, 29]
abbrev dktX4_equalsIgnoreCase_1 : List UInt8 := dkwX4_equalsIgnoreCase_1 ++ dktX4_equalsIgnoreCase_2
def dkwX4_equalsIgnoreCase_0 : List UInt8 := [42, 185, 0, 28, 1, 0, 61, 42, 43, 166, 0, 5, 4, 172, 28, 43, 185, 0, 28, 1, 0, 159, 0, 5]
abbrev dktX4_equalsIgnoreCase_0 : List UInt8 := dkwX4_equalsIgnoreCase_0 ++ dktX4_equalsIgnoreCase_1
theorem dksX4_equalsIgnoreCase_0 : cX4_equalsIgnoreCase.data.toList.drop 0 = dktX4_equalsIgnoreCase_0 := by decide +kernel
theorem dksX4_equalsIgnoreCase_1 : cX4_equalsIgnoreCase.data.toList.drop 24 = dktX4_equalsIgnoreCase_1 := dk_seg dksX4_equalsIgnoreCase_0 24 rfl rfl
theorem dksX4_equalsIgnoreCase_2 : cX4_equalsIgnoreCase.data.toList.drop 44 = dktX4_equalsIgnoreCase_2 := dk_seg dksX4_equalsIgnoreCase_1 20 rfl rfl
theorem dksX4_equalsIgnoreCase_3 : cX4_equalsIgnoreCase.data.toList.drop 68 = dktX4_equalsIgnoreCase_3 := dk_seg dksX4_equalsIgnoreCase_2 24 rfl rfl
theorem dksX4_equalsIgnoreCase_4 : cX4_equalsIgnoreCase.data.toList.drop 90 = dktX4_equalsIgnoreCase_4 := dk_seg dksX4_equalsIgnoreCase_3 22 rfl rfl
theorem dX4_equalsIgnoreCase_0 : decode cX4_equalsIgnoreCase 0 = .ok (.aload_n 0, 1) := dk_42 (dk_at dksX4_equalsIgnoreCase_0 0 rfl rfl)
theorem dX4_equalsIgnoreCase_1 : decode cX4_equalsIgnoreCase 1 = .ok (.invokeinterface 28 1, 5) := by decide +kernel
theorem dX4_equalsIgnoreCase_6 : decode cX4_equalsIgnoreCase 6 = .ok (.istore_n 2, 1) := dk_61 (dk_at dksX4_equalsIgnoreCase_0 6 rfl rfl)
theorem dX4_equalsIgnoreCase_7 : decode cX4_equalsIgnoreCase 7 = .ok (.aload_n 0, 1) := dk_42 (dk_at dksX4_equalsIgnoreCase_0 7 rfl rfl)
theorem dX4_equalsIgnoreCase_8 : decode cX4_equalsIgnoreCase 8 = .ok (.aload_n 1, 1) := dk_43 (dk_at dksX4_equalsIgnoreCase_0 8 rfl rfl)
theorem dX4_equalsIgnoreCase_9 : decode cX4_equalsIgnoreCase 9 = .ok (.if_acmp .ne 5, 3) := dk_166 0 5 (dk_at dksX4_equalsIgnoreCase_0 9 rfl rfl)
theorem dX4_equalsIgnoreCase_12 : decode cX4_equalsIgnoreCase 12 = .ok (.iconst 1, 1) := dk_4 (dk_at dksX4_equalsIgnoreCase_0 12 rfl rfl)
theorem dX4_equalsIgnoreCase_13 : decode cX4_equalsIgnoreCase 13 = .ok (.ireturn, 1) := dk_172 (dk_at dksX4_equalsIgnoreCase_0 13 rfl rfl)
theorem dX4_equalsIgnoreCase_14 : decode cX4_equalsIgnoreCase 14 = .ok (.iload_n 2, 1) := dk_28 (dk_at dksX4_equalsIgnoreCase_0 14 rfl rfl)
theorem dX4_equalsIgnoreCase_15 : decode cX4_equalsIgnoreCase 15 = .ok (.aload_n 1, 1) := dk_43 (dk_at dksX4_equalsIgnoreCase_0 15 rfl rfl)
theorem dX4_equalsIgnoreCase_16 : decode cX4_equalsIgnoreCase 16 = .ok (.invokeinterface 28 1, 5) := by decide +kernel
theorem dX4_equalsIgnoreCase_21 : decode cX4_equalsIgnoreCase 21 = .ok (.if_icmp .eq 5, 3) := dk_159 0 5 (dk_at dksX4_equalsIgnoreCase_0 21 rfl rfl)
theorem dX4_equalsIgnoreCase_24 : decode cX4_equalsIgnoreCase 24 = .ok (.iconst 0, 1) := dk_3 (dk_at dksX4_equalsIgnoreCase_1 0 rfl rfl)
theorem dX4_equalsIgnoreCase_25 : decode cX4_equalsIgnoreCase 25 = .ok (.ireturn, 1) := dk_172 (dk_at dksX4_equalsIgnoreCase_1 1 rfl rfl)
theorem dX4_equalsIgnoreCase_26 : decode cX4_equalsIgnoreCase 26 = .ok (.iconst 0, 1) := dk_3 (dk_at dksX4_equalsIgnoreCase_1 2 rfl rfl)
theorem dX4_equalsIgnoreCase_27 : decode cX4_equalsIgnoreCase 27 = .ok (.istore_n 3, 1) := dk_62 (dk_at dksX4_equalsIgnoreCase_1 3 rfl rfl)
theorem dX4_equalsIgnoreCase_28 : decode cX4_equalsIgnoreCase 28 = .ok (.iload_n 3, 1) := dk_29 (dk_at dksX4_equalsIgnoreCase_1 4 rfl rfl)
theorem dX4_equalsIgnoreCase_29 : decode cX4_equalsIgnoreCase 29 = .ok (.iload_n 2, 1) := dk_28 (dk_at dksX4_equalsIgnoreCase_1 5 rfl rfl)
theorem dX4_equalsIgnoreCase_30 : decode cX4_equalsIgnoreCase 30 = .ok (.if_icmp .ge 66, 3) := dk_162 0 66 (dk_at dksX4_equalsIgnoreCase_1 6 rfl rfl)
theorem dX4_equalsIgnoreCase_33 : decode cX4_equalsIgnoreCase 33 = .ok (.aload_n 0, 1) := dk_42 (dk_at dksX4_equalsIgnoreCase_1 9 rfl rfl)
theorem dX4_equalsIgnoreCase_34 : decode cX4_equalsIgnoreCase 34 = .ok (.iload_n 3, 1) := dk_29 (dk_at dksX4_equalsIgnoreCase_1 10 rfl rfl)
theorem dX4_equalsIgnoreCase_35 : decode cX4_equalsIgnoreCase 35 = .ok (.invokeinterface 31 2, 5) := by decide +kernel
theorem dX4_equalsIgnoreCase_40 : decode cX4_equalsIgnoreCase 40 = .ok (.istore 4, 2) := dk_54 4 (dk_at dksX4_equalsIgnoreCase_1 16 rfl rfl)
theorem dX4_equalsIgnoreCase_42 : decode cX4_equalsIgnoreCase 42 = .ok (.aload_n 1, 1) := dk_43 (dk_at dksX4_equalsIgnoreCase_1 18 rfl rfl)
theorem dX4_equalsIgnoreCase_43 : decode cX4_equalsIgnoreCase 43 = .ok (.iload_n 3, 1) := dk_29 (dk_at dksX4_equalsIgnoreCase_1 19 rfl rfl)
theorem dX4_equalsIgnoreCase_44 : decode cX4_equalsIgnoreCase 44 = .ok (.invokeinterface 31 2, 5) := by decide +kernel
theorem dX4_equalsIgnoreCase_49 : decode cX4_equalsIgnoreCase 49 = .ok (.istore 5, 2) := dk_54 5 (dk_at dksX4_equalsIgnoreCase_2 5 rfl rfl)
theorem dX4_equalsIgnoreCase_51 : decode cX4_equalsIgnoreCase 51 = .ok (.iload 4, 2) := dk_21 4 (dk_at dksX4_equalsIgnoreCase_2 7 rfl rfl)
theorem dX4_equalsIgnoreCase_53 : decode cX4_equalsIgnoreCase 53 = .ok (.iload 5, 2) := dk_21 5 (dk_at dksX4_equalsIgnoreCase_2 9 rfl rfl)
theorem dX4_equalsIgnoreCase_55 : decode cX4_equalsIgnoreCase 55 = .ok (.if_icmp .ne 6, 3) := dk_160 0 6 (dk_at dksX4_equalsIgnoreCase_2 11 rfl rfl)
theorem dX4_equalsIgnoreCase_58 : decode cX4_equalsIgnoreCase 58 = .ok (.goto 32, 3) := dk_167 0 32 (dk_at dksX4_equalsIgnoreCase_2 14 rfl rfl)
theorem dX4_equalsIgnoreCase_61 : decode cX4_equalsIgnoreCase 61 = .ok (.iload 4, 2) := dk_21 4 (dk_at dksX4_equalsIgnoreCase_2 17 rfl rfl)
theorem dX4_equalsIgnoreCase_63 : decode cX4_equalsIgnoreCase 63 = .ok (.invokestatic 32, 3) := dk_184 0 32 (dk_at dksX4_equalsIgnoreCase_2 19 rfl rfl)
theorem dX4_equalsIgnoreCase_66 : decode cX4_equalsIgnoreCase 66 = .ok (.istore 6, 2) := dk_54 6 (dk_at dksX4_equalsIgnoreCase_2 22 rfl rfl)
theorem dX4_equalsIgnoreCase_68 : decode cX4_equalsIgnoreCase 68 = .ok (.iload 6, 2) := dk_21 6 (dk_at dksX4_equalsIgnoreCase_3 0 rfl rfl)
theorem dX4_equalsIgnoreCase_70 : decode cX4_equalsIgnoreCase 70 = .ok (.bipush 26, 2) := dk_16 26 (dk_at dksX4_equalsIgnoreCase_3 2 rfl rfl)
theorem dX4_equalsIgnoreCase_72 : decode cX4_equalsIgnoreCase 72 = .ok (.if_icmp .ge 16, 3) := dk_162 0 16 (dk_at dksX4_equalsIgnoreCase_3 4 rfl rfl)
theorem dX4_equalsIgnoreCase_75 : decode cX4_equalsIgnoreCase 75 = .ok (.iload 6, 2) := dk_21 6 (dk_at dksX4_equalsIgnoreCase_3 7 rfl rfl)
theorem dX4_equalsIgnoreCase_77 : decode cX4_equalsIgnoreCase 77 = .ok (.iload 5, 2) := dk_21 5 (dk_at dksX4_equalsIgnoreCase_3 9 rfl rfl)
theorem dX4_equalsIgnoreCase_79 : decode cX4_equalsIgnoreCase 79 = .ok (.invokestatic 32, 3) := dk_184 0 32 (dk_at dksX4_equalsIgnoreCase_3 11 rfl rfl)
theorem dX4_equalsIgnoreCase_82 : decode cX4_equalsIgnoreCase 82 = .ok (.if_icmp .ne 6, 3) := dk_160 0 6 (dk_at dksX4_equalsIgnoreCase_3 14 rfl rfl)
theorem dX4_equalsIgnoreCase_85 : decode cX4_equalsIgnoreCase 85 = .ok (.goto 5, 3) := dk_167 0 5 (dk_at dksX4_equalsIgnoreCase_3 17 rfl rfl)
theorem dX4_equalsIgnoreCase_88 : decode cX4_equalsIgnoreCase 88 = .ok (.iconst 0, 1) := dk_3 (dk_at dksX4_equalsIgnoreCase_3 20 rfl rfl)
theorem dX4_equalsIgnoreCase_89 : decode cX4_equalsIgnoreCase 89 = .ok (.ireturn, 1) := dk_172 (dk_at dksX4_equalsIgnoreCase_3 21 rfl rfl)
theorem dX4_equalsIgnoreCase_90 : decode cX4_equalsIgnoreCase 90 = .ok (.iinc 3 1, 3) := dk_132 3 1 (dk_at dksX4_equalsIgnoreCase_4 0 rfl rfl)
theorem dX4_equalsIgnoreCase_93 : decode cX4_equalsIgnoreCase 93 = .ok (.goto (-65), 3) := dk_167 255 191 (dk_at dksX4_equalsIgnoreCase_4 3 rfl rfl)
theorem dX4_equalsIgnoreCase_96 : decode cX4_equalsIgnoreCase 96 = .ok (.iconst 1, 1) := dk_4 (dk_at dksX4_equalsIgnoreCase_4 6 rfl rfl)
theorem dX4_equalsIgnoreCase_97 : decode cX4_equalsIgnoreCase 97 = .ok (.ireturn, 1) := dk_172 (dk_at dksX4_equalsIgnoreCase_4 7 rfl rfl)
abbrev cX4_getAlphaIndex : ByteArray := prog_1_method_6_code
def yX4_getAlphaIndex : MethodName := ⟨RX4, "getAlphaIndex", "(C)I"⟩
def dkwX4_getAlphaIndex_0 : List UInt8 := [26, 16, 32, 128, 16, 97, 100, 146, 172]
abbrev dktX4_getAlphaIndex_0 : List UInt8 := dkwX4_getAlphaIndex_0 ++ []
theorem dksX4_getAlphaIndex_0 : cX4_getAlphaIndex.data.toList.drop 0 = dktX4_getAlphaIndex_0 := by decide +kernel
theorem dX4_getAlphaIndex_0 : decode cX4_getAlphaIndex 0 = .ok (.iload_n 0, 1) := dk_26 (dk_at dksX4_getAlphaIndex_0 0 rfl rfl)
theorem dX4_getAlphaIndex_1 : decode cX4_getAlphaIndex 1 = .ok (.bipush 32, 2) := dk_16 32 (dk_at dksX4_getAlphaIndex_0 1 rfl rfl)
theorem dX4_getAlphaIndex_3 : decode cX4_getAlphaIndex 3 = .ok (.ior, 1) := dk_128 (dk_at dksX4_getAlphaIndex_0 3 rfl rfl)
theorem dX4_getAlphaIndex_4 : decode cX4_getAlphaIndex 4 = .ok (.bipush 97, 2) := dk_16 97 (dk_at dksX4_getAlphaIndex_0 4 rfl rfl)
theorem dX4_getAlphaIndex_6 : decode cX4_getAlphaIndex 6 = .ok (.isub, 1) := dk_100 (dk_at dksX4_getAlphaIndex_0 6 rfl rfl)
theorem dX4_getAlphaIndex_7 : decode cX4_getAlphaIndex 7 = .ok (.i2c, 1) := dk_146 (dk_at dksX4_getAlphaIndex_0 7 rfl rfl)
theorem dX4_getAlphaIndex_8 : decode cX4_getAlphaIndex 8 = .ok (.ireturn, 1) := dk_172 (dk_at dksX4_getAlphaIndex_0 8 rfl rfl)
theorem q0 : (Jvm.Cond.initialized "TextDeskLaw") ∈ lw_all := lw_g (lw_at lw_m1 0 rfl) rfl
theorem q1 : (Jvm.Cond.initialized "TextDesk") ∈ lw_all := lw_g (lw_at lw_m1 1 rfl) rfl
theorem q2 : (Jvm.Cond.initialized "Strings") ∈ lw_all := lw_g (lw_at lw_m1 2 rfl) rfl
theorem q3 : (Jvm.Cond.initialized "Preconditions") ∈ lw_all := lw_g (lw_at lw_m1 3 rfl) rfl
theorem q4 : (Jvm.Cond.initialized "java/lang/String") ∈ lw_all := lw_g (lw_at lw_m1 4 rfl) rfl
theorem q5 : (Jvm.Cond.initialized "java/lang/Math") ∈ lw_all := lw_g (lw_at lw_m1 5 rfl) rfl
theorem q6 : (Jvm.Cond.initialized "java/lang/StringLatin1") ∈ lw_all := lw_g (lw_at lw_m1 6 rfl) rfl
theorem q7 : (Jvm.Cond.initialized "jdk/internal/util/Preconditions") ∈ lw_all := lw_g (lw_at lw_m1 7 rfl) rfl
theorem q8 : (Jvm.Cond.initialized "java/lang/StringUTF16") ∈ lw_all := lw_g (lw_at lw_m1 8 rfl) rfl
theorem q9 : (Jvm.Cond.initialized "java/lang/Character") ∈ lw_all := lw_g (lw_at lw_m1 9 rfl) rfl
theorem q10 : (Jvm.Cond.initialized "java/util/Arrays") ∈ lw_all := lw_g (lw_at lw_m1 10 rfl) rfl
theorem q11 : (Jvm.Cond.initialized "java/lang/System") ∈ lw_all := lw_g (lw_at lw_m1 11 rfl) rfl
theorem q12 : (Jvm.Cond.initialized "Ascii") ∈ lw_all := lw_g (lw_at lw_m1 12 rfl) rfl
theorem q13 : (Jvm.Cond.initialized "java/lang/AbstractStringBuilder") ∈ lw_all := lw_g (lw_at lw_m1 13 rfl) rfl
theorem q14 : (Jvm.Cond.initialized "java/lang/StringBuilder") ∈ lw_all := lw_g (lw_at lw_m1 14 rfl) rfl
theorem q15 : (Jvm.Cond.initialized "jdk/internal/util/ArraysSupport") ∈ lw_all := lw_g (lw_at lw_m1 15 rfl) rfl
theorem q16 : (Jvm.Cond.classLink "TextDeskLaw" (21 : Nat) "TextDesk") ∈ lw_all := lw_g (lw_at lw_m1 16 rfl) rfl
theorem q17 : (Jvm.Cond.instantiable "TextDesk" (2 : Nat)) ∈ lw_all := lw_g (lw_at lw_m1 17 rfl) rfl
theorem q18 : (Jvm.Cond.methodLink "TextDeskLaw" (40 : Nat) ({ cls := "TextDesk", name := "<init>", desc := "()V" } : Jvm.MethodName)) ∈ lw_all := lw_g (lw_at lw_m1 18 rfl) rfl
theorem q19 : (Jvm.Cond.instanceMethod ({ cls := "TextDesk", name := "<init>", desc := "()V" } : Jvm.MethodName)) ∈ lw_all := lw_g (lw_at lw_m1 19 rfl) rfl
theorem q20 : (Jvm.Cond.code ({ cls := "TextDesk", name := "<init>", desc := "()V" } : Jvm.MethodName) prog_4_method_1_code (1 : Nat) (Option.none : Option Jvm.ClassFile.FieldType)) ∈ lw_all := lw_g (lw_at lw_m1 20 rfl) rfl
theorem q21 : (Jvm.Cond.methodLink "TextDesk" (1 : Nat) ({ cls := "java/lang/Object", name := "<init>", desc := "()V" } : Jvm.MethodName)) ∈ lw_all := lw_g (lw_at lw_m1 21 rfl) rfl
theorem q22 : (Jvm.Cond.instanceMethod ({ cls := "java/lang/Object", name := "<init>", desc := "()V" } : Jvm.MethodName)) ∈ lw_all := lw_g (lw_at lw_m1 22 rfl) rfl
theorem q23 : (Jvm.Cond.code ({ cls := "java/lang/Object", name := "<init>", desc := "()V" } : Jvm.MethodName) object_method_1_code (1 : Nat) (Option.none : Option Jvm.ClassFile.FieldType)) ∈ lw_all := lw_g (lw_at lw_m1 23 rfl) rfl
theorem q24 : (Jvm.Cond.stringRef "TextDesk" (7 : Nat) "") ∈ lw_tbl := lw_at lw_m1 24 rfl
theorem q25 : (Jvm.Cond.fieldLink "TextDesk" (9 : Nat) "TextDesk" "a" "Ljava/lang/String;") ∈ lw_all := lw_g (lw_at lw_m1 25 rfl) rfl
theorem q26 : (Jvm.Cond.fieldLink "TextDesk" (15 : Nat) "TextDesk" "b" "Ljava/lang/String;") ∈ lw_all := lw_g (lw_at lw_m1 26 rfl) rfl
theorem q27 : (Jvm.Cond.lays "TextDesk" "TextDesk" "a" "Ljava/lang/String;") ∈ lw_all := lw_g (lw_at lw_m1 27 rfl) rfl
theorem q28 : (Jvm.Cond.soleField "TextDesk" "a") ∈ lw_all := lw_g (lw_at lw_m1 28 rfl) rfl
theorem q29 : (Jvm.Cond.lays "TextDesk" "TextDesk" "b" "Ljava/lang/String;") ∈ lw_all := lw_g (lw_at lw_m1 29 rfl) rfl
theorem q30 : (Jvm.Cond.soleField "TextDesk" "b") ∈ lw_all := lw_g (lw_at lw_m1 30 rfl) rfl
theorem q31 : (Jvm.Cond.superclass "TextDesk" "java/lang/Object") ∈ lw_all := lw_g (lw_at lw_m1 31 rfl) rfl
theorem q32 : (Jvm.Cond.arrayClass Jvm.ClassFile.FieldType.byte) ∈ lw_all := lw_g (lw_at lw_m1 32 rfl) rfl
theorem q33 : (Jvm.Cond.methodLink "TextDeskLaw" (75 : Nat) ({ cls := "TextDesk", name := "put", desc := "(III)Z" } : Jvm.MethodName)) ∈ lw_all := lw_g (lw_at lw_m1 33 rfl) rfl
theorem q34 : (Jvm.Cond.instanceMethod ({ cls := "TextDesk", name := "put", desc := "(III)Z" } : Jvm.MethodName)) ∈ lw_all := lw_g (lw_at lw_m1 34 rfl) rfl
theorem q35 : (Jvm.Cond.selects "TextDesk" ({ cls := "TextDesk", name := "put", desc := "(III)Z" } : Jvm.MethodName) ({ cls := "TextDesk", name := "put", desc := "(III)Z" } : Jvm.MethodName)) ∈ lw_all := lw_g (lw_at lw_m1 35 rfl) rfl
theorem q36 : (Jvm.Cond.code ({ cls := "TextDesk", name := "put", desc := "(III)Z" } : Jvm.MethodName) prog_4_method_3_code (4 : Nat) (Option.some Jvm.ClassFile.FieldType.boolean)) ∈ lw_all := lw_g (lw_at lw_m1 36 rfl) rfl
theorem q37 : (Jvm.Cond.methodLink "TextDesk" (19 : Nat) ({ cls := "java/lang/String", name := "length", desc := "()I" } : Jvm.MethodName)) ∈ lw_all := lw_g (lw_at lw_m1 37 rfl) rfl
theorem q38 : (Jvm.Cond.instanceMethod ({ cls := "java/lang/String", name := "length", desc := "()I" } : Jvm.MethodName)) ∈ lw_all := lw_g (lw_at lw_m1 38 rfl) rfl
theorem q39 : (Jvm.Cond.selects "java/lang/String" ({ cls := "java/lang/String", name := "length", desc := "()I" } : Jvm.MethodName) ({ cls := "java/lang/String", name := "length", desc := "()I" } : Jvm.MethodName)) ∈ lw_all := lw_g (lw_at lw_m1 39 rfl) rfl
theorem q40 : (Jvm.Cond.code ({ cls := "java/lang/String", name := "length", desc := "()I" } : Jvm.MethodName) prog_11_method_54_code (1 : Nat) (Option.some Jvm.ClassFile.FieldType.int)) ∈ lw_all := lw_g (lw_at lw_m1 40 rfl) rfl
theorem q41 : (Jvm.Cond.methodLink "java/lang/String" (335 : Nat) ({ cls := "java/lang/String", name := "coder", desc := "()B" } : Jvm.MethodName)) ∈ lw_all := lw_g (lw_at lw_m1 41 rfl) rfl
theorem q42 : (Jvm.Cond.instanceMethod ({ cls := "java/lang/String", name := "coder", desc := "()B" } : Jvm.MethodName)) ∈ lw_all := lw_g (lw_at lw_m1 42 rfl) rfl
theorem q43 : (Jvm.Cond.selects "java/lang/String" ({ cls := "java/lang/String", name := "coder", desc := "()B" } : Jvm.MethodName) ({ cls := "java/lang/String", name := "coder", desc := "()B" } : Jvm.MethodName)) ∈ lw_all := lw_g (lw_at lw_m1 43 rfl) rfl
theorem q44 : (Jvm.Cond.code ({ cls := "java/lang/String", name := "coder", desc := "()B" } : Jvm.MethodName) prog_11_method_152_code (1 : Nat) (Option.some Jvm.ClassFile.FieldType.byte)) ∈ lw_all := lw_g (lw_at lw_m1 44 rfl) rfl
theorem q45 : (Jvm.Cond.fieldLink "java/lang/String" (38 : Nat) "java/lang/String" "COMPACT_STRINGS" "Z") ∈ lw_all := lw_g (lw_at lw_m1 45 rfl) rfl
theorem q46 : (Jvm.Cond.laysStatic "java/lang/String" "COMPACT_STRINGS" "Z") ∈ lw_tbl := lw_at lw_m1 46 rfl
theorem q47 : (Jvm.Cond.classLink "TextDesk" (25 : Nat) "java/lang/StringBuilder") ∈ lw_all := lw_g (lw_at lw_m1 47 rfl) rfl
theorem q48 : (Jvm.Cond.instantiable "java/lang/StringBuilder" (4 : Nat)) ∈ lw_all := lw_g (lw_at lw_m1 48 rfl) rfl
theorem q49 : (Jvm.Cond.methodLink "TextDesk" (27 : Nat) ({ cls := "java/lang/StringBuilder", name := "<init>", desc := "(Ljava/lang/String;)V" } : Jvm.MethodName)) ∈ lw_all := lw_g (lw_at lw_m1 49 rfl) rfl
theorem q50 : (Jvm.Cond.instanceMethod ({ cls := "java/lang/StringBuilder", name := "<init>", desc := "(Ljava/lang/String;)V" } : Jvm.MethodName)) ∈ lw_all := lw_g (lw_at lw_m1 50 rfl) rfl
theorem q51 : (Jvm.Cond.code ({ cls := "java/lang/StringBuilder", name := "<init>", desc := "(Ljava/lang/String;)V" } : Jvm.MethodName) prog_12_method_3_code (2 : Nat) (Option.none : Option Jvm.ClassFile.FieldType)) ∈ lw_all := lw_g (lw_at lw_m1 51 rfl) rfl
theorem q52 : (Jvm.Cond.methodLink "java/lang/StringBuilder" (7 : Nat) ({ cls := "java/lang/AbstractStringBuilder", name := "<init>", desc := "(Ljava/lang/String;)V" } : Jvm.MethodName)) ∈ lw_all := lw_g (lw_at lw_m1 52 rfl) rfl
theorem q53 : (Jvm.Cond.instanceMethod ({ cls := "java/lang/AbstractStringBuilder", name := "<init>", desc := "(Ljava/lang/String;)V" } : Jvm.MethodName)) ∈ lw_all := lw_g (lw_at lw_m1 53 rfl) rfl
theorem q54 : (Jvm.Cond.code ({ cls := "java/lang/AbstractStringBuilder", name := "<init>", desc := "(Ljava/lang/String;)V" } : Jvm.MethodName) prog_6_method_3_code (5 : Nat) (Option.none : Option Jvm.ClassFile.FieldType)) ∈ lw_all := lw_g (lw_at lw_m1 54 rfl) rfl
theorem q55 : (Jvm.Cond.methodLink "java/lang/AbstractStringBuilder" (3 : Nat) ({ cls := "java/lang/Object", name := "<init>", desc := "()V" } : Jvm.MethodName)) ∈ lw_all := lw_g (lw_at lw_m1 55 rfl) rfl
theorem q56 : (Jvm.Cond.methodLink "java/lang/AbstractStringBuilder" (32 : Nat) ({ cls := "java/lang/String", name := "length", desc := "()I" } : Jvm.MethodName)) ∈ lw_all := lw_g (lw_at lw_m1 56 rfl) rfl
theorem q57 : (Jvm.Cond.constant "java/lang/AbstractStringBuilder" (38 : Nat) (2147483631 : Int32)) ∈ lw_all := lw_g (lw_at lw_m1 57 rfl) rfl
theorem q58 : (Jvm.Cond.constant "java/lang/AbstractStringBuilder" (39 : Nat) (2147483647 : Int32)) ∈ lw_all := lw_g (lw_at lw_m1 58 rfl) rfl
theorem q59 : (Jvm.Cond.methodLink "java/lang/AbstractStringBuilder" (40 : Nat) ({ cls := "java/lang/String", name := "coder", desc := "()B" } : Jvm.MethodName)) ∈ lw_all := lw_g (lw_at lw_m1 59 rfl) rfl
theorem q60 : (Jvm.Cond.methodLink "java/lang/AbstractStringBuilder" (26 : Nat) ({ cls := "java/lang/StringUTF16", name := "newBytesFor", desc := "(I)[B" } : Jvm.MethodName)) ∈ lw_all := lw_g (lw_at lw_m1 60 rfl) rfl
theorem q61 : (Jvm.Cond.static ({ cls := "java/lang/StringUTF16", name := "newBytesFor", desc := "(I)[B" } : Jvm.MethodName)) ∈ lw_all := lw_g (lw_at lw_m1 61 rfl) rfl
theorem q62 : (Jvm.Cond.code ({ cls := "java/lang/StringUTF16", name := "newBytesFor", desc := "(I)[B" } : Jvm.MethodName) prog_14_method_2_code (1 : Nat) (Option.some (Jvm.ClassFile.FieldType.array Jvm.ClassFile.FieldType.byte))) ∈ lw_all := lw_g (lw_at lw_m1 62 rfl) rfl
theorem q63 : (Jvm.Cond.methodLink "java/lang/StringUTF16" (11 : Nat) ({ cls := "java/lang/StringUTF16", name := "newBytesLength", desc := "(I)I" } : Jvm.MethodName)) ∈ lw_all := lw_g (lw_at lw_m1 63 rfl) rfl
theorem q64 : (Jvm.Cond.static ({ cls := "java/lang/StringUTF16", name := "newBytesLength", desc := "(I)I" } : Jvm.MethodName)) ∈ lw_all := lw_g (lw_at lw_m1 64 rfl) rfl
theorem q65 : (Jvm.Cond.code ({ cls := "java/lang/StringUTF16", name := "newBytesLength", desc := "(I)I" } : Jvm.MethodName) prog_14_method_3_code (1 : Nat) (Option.some Jvm.ClassFile.FieldType.int)) ∈ lw_all := lw_g (lw_at lw_m1 65 rfl) rfl
theorem q66 : (Jvm.Cond.constant "java/lang/StringUTF16" (20 : Nat) (1073741823 : Int32)) ∈ lw_all := lw_g (lw_at lw_m1 66 rfl) rfl
theorem q67 : (Jvm.Cond.methodLink "java/lang/AbstractStringBuilder" (43 : Nat) ({ cls := "java/lang/AbstractStringBuilder", name := "append", desc := "(Ljava/lang/String;)Ljava/lang/AbstractStringBuilder;" } : Jvm.MethodName)) ∈ lw_all := lw_g (lw_at lw_m1 67 rfl) rfl
theorem q68 : (Jvm.Cond.instanceMethod ({ cls := "java/lang/AbstractStringBuilder", name := "append", desc := "(Ljava/lang/String;)Ljava/lang/AbstractStringBuilder;" } : Jvm.MethodName)) ∈ lw_all := lw_g (lw_at lw_m1 68 rfl) rfl
theorem q69 : (Jvm.Cond.sameMethod "java/lang/AbstractStringBuilder" "java/lang/AbstractStringBuilder" "append" "(Ljava/lang/String;)Ljava/lang/AbstractStringBuilder;") ∈ lw_all := lw_g (lw_at lw_m1 69 rfl) rfl
theorem q70 : (Jvm.Cond.selects "java/lang/StringBuilder" ({ cls := "java/lang/AbstractStringBuilder", name := "append", desc := "(Ljava/lang/String;)Ljava/lang/AbstractStringBuilder;" } : Jvm.MethodName) ({ cls := "java/lang/StringBuilder", name := "append", desc := "(Ljava/lang/String;)Ljava/lang/AbstractStringBuilder;" } : Jvm.MethodName)) ∈ lw_all := lw_g (lw_at lw_m1 70 rfl) rfl
theorem q71 : (Jvm.Cond.instanceMethod ({ cls := "java/lang/StringBuilder", name := "append", desc := "(Ljava/lang/String;)Ljava/lang/AbstractStringBuilder;" } : Jvm.MethodName)) ∈ lw_all := lw_g (lw_at lw_m1 71 rfl) rfl
theorem q72 : (Jvm.Cond.code ({ cls := "java/lang/StringBuilder", name := "append", desc := "(Ljava/lang/String;)Ljava/lang/AbstractStringBuilder;" } : Jvm.MethodName) prog_12_method_80_code (2 : Nat) (Option.some (Jvm.ClassFile.FieldType.object "java/lang/AbstractStringBuilder"))) ∈ lw_all := lw_g (lw_at lw_m1 72 rfl) rfl
theorem q73 : (Jvm.Cond.methodLink "java/lang/StringBuilder" (23 : Nat) ({ cls := "java/lang/StringBuilder", name := "append", desc := "(Ljava/lang/String;)Ljava/lang/StringBuilder;" } : Jvm.MethodName)) ∈ lw_all := lw_g (lw_at lw_m1 73 rfl) rfl
theorem q74 : (Jvm.Cond.instanceMethod ({ cls := "java/lang/StringBuilder", name := "append", desc := "(Ljava/lang/String;)Ljava/lang/StringBuilder;" } : Jvm.MethodName)) ∈ lw_all := lw_g (lw_at lw_m1 74 rfl) rfl
theorem q75 : (Jvm.Cond.selects "java/lang/StringBuilder" ({ cls := "java/lang/StringBuilder", name := "append", desc := "(Ljava/lang/String;)Ljava/lang/StringBuilder;" } : Jvm.MethodName) ({ cls := "java/lang/StringBuilder", name := "append", desc := "(Ljava/lang/String;)Ljava/lang/StringBuilder;" } : Jvm.MethodName)) ∈ lw_all := lw_g (lw_at lw_m1 75 rfl) rfl
theorem q76 : (Jvm.Cond.code ({ cls := "java/lang/StringBuilder", name := "append", desc := "(Ljava/lang/String;)Ljava/lang/StringBuilder;" } : Jvm.MethodName) prog_12_method_7_code (2 : Nat) (Option.some (Jvm.ClassFile.FieldType.object "java/lang/StringBuilder"))) ∈ lw_all := lw_g (lw_at lw_m1 76 rfl) rfl
theorem q77 : (Jvm.Cond.methodLink "java/lang/StringBuilder" (29 : Nat) ({ cls := "java/lang/AbstractStringBuilder", name := "append", desc := "(Ljava/lang/String;)Ljava/lang/AbstractStringBuilder;" } : Jvm.MethodName)) ∈ lw_all := lw_g (lw_at lw_m1 77 rfl) rfl
theorem q78 : (Jvm.Cond.superclass "java/lang/StringBuilder" "java/lang/AbstractStringBuilder") ∈ lw_all := lw_g (lw_at lw_m1 78 rfl) rfl
theorem q79 : (Jvm.Cond.code ({ cls := "java/lang/AbstractStringBuilder", name := "append", desc := "(Ljava/lang/String;)Ljava/lang/AbstractStringBuilder;" } : Jvm.MethodName) prog_6_method_22_code (3 : Nat) (Option.some (Jvm.ClassFile.FieldType.object "java/lang/AbstractStringBuilder"))) ∈ lw_all := lw_g (lw_at lw_m1 79 rfl) rfl
theorem q80 : (Jvm.Cond.methodLink "java/lang/AbstractStringBuilder" (204 : Nat) ({ cls := "java/lang/AbstractStringBuilder", name := "appendNull", desc := "()Ljava/lang/AbstractStringBuilder;" } : Jvm.MethodName)) ∈ lw_all := lw_g (lw_at lw_m1 80 rfl) rfl
theorem q81 : (Jvm.Cond.privateMethod ({ cls := "java/lang/AbstractStringBuilder", name := "appendNull", desc := "()Ljava/lang/AbstractStringBuilder;" } : Jvm.MethodName)) ∈ lw_tbl := lw_at lw_m1 81 rfl
theorem q82 : (Jvm.Cond.instanceMethod ({ cls := "java/lang/AbstractStringBuilder", name := "appendNull", desc := "()Ljava/lang/AbstractStringBuilder;" } : Jvm.MethodName)) ∈ lw_all := lw_g (lw_at lw_m1 82 rfl) rfl
theorem q83 : (Jvm.Cond.code ({ cls := "java/lang/AbstractStringBuilder", name := "appendNull", desc := "()Ljava/lang/AbstractStringBuilder;" } : Jvm.MethodName) prog_6_method_26_code (3 : Nat) (Option.some (Jvm.ClassFile.FieldType.object "java/lang/AbstractStringBuilder"))) ∈ lw_all := lw_g (lw_at lw_m1 83 rfl) rfl
theorem q84 : (Jvm.Cond.methodLink "java/lang/AbstractStringBuilder" (100 : Nat) ({ cls := "java/lang/AbstractStringBuilder", name := "ensureCapacityInternal", desc := "(I)V" } : Jvm.MethodName)) ∈ lw_all := lw_g (lw_at lw_m1 84 rfl) rfl
theorem q85 : (Jvm.Cond.privateMethod ({ cls := "java/lang/AbstractStringBuilder", name := "ensureCapacityInternal", desc := "(I)V" } : Jvm.MethodName)) ∈ lw_tbl := lw_at lw_m1 85 rfl
theorem q86 : (Jvm.Cond.instanceMethod ({ cls := "java/lang/AbstractStringBuilder", name := "ensureCapacityInternal", desc := "(I)V" } : Jvm.MethodName)) ∈ lw_all := lw_g (lw_at lw_m1 86 rfl) rfl
theorem q87 : (Jvm.Cond.code ({ cls := "java/lang/AbstractStringBuilder", name := "ensureCapacityInternal", desc := "(I)V" } : Jvm.MethodName) prog_6_method_9_code (3 : Nat) (Option.none : Option Jvm.ClassFile.FieldType)) ∈ lw_all := lw_g (lw_at lw_m1 87 rfl) rfl
theorem q88 : (Jvm.Cond.methodLink "java/lang/AbstractStringBuilder" (104 : Nat) ({ cls := "java/lang/AbstractStringBuilder", name := "newCapacity", desc := "(I)I" } : Jvm.MethodName)) ∈ lw_all := lw_g (lw_at lw_m1 88 rfl) rfl
theorem q89 : (Jvm.Cond.privateMethod ({ cls := "java/lang/AbstractStringBuilder", name := "newCapacity", desc := "(I)I" } : Jvm.MethodName)) ∈ lw_tbl := lw_at lw_m1 89 rfl
theorem q90 : (Jvm.Cond.instanceMethod ({ cls := "java/lang/AbstractStringBuilder", name := "newCapacity", desc := "(I)I" } : Jvm.MethodName)) ∈ lw_all := lw_g (lw_at lw_m1 90 rfl) rfl
theorem q91 : (Jvm.Cond.code ({ cls := "java/lang/AbstractStringBuilder", name := "newCapacity", desc := "(I)I" } : Jvm.MethodName) prog_6_method_10_code (6 : Nat) (Option.some Jvm.ClassFile.FieldType.int)) ∈ lw_all := lw_g (lw_at lw_m1 91 rfl) rfl
theorem q92 : (Jvm.Cond.methodLink "java/lang/AbstractStringBuilder" (114 : Nat) ({ cls := "jdk/internal/util/ArraysSupport", name := "newLength", desc := "(III)I" } : Jvm.MethodName)) ∈ lw_all := lw_g (lw_at lw_m1 92 rfl) rfl
theorem q93 : (Jvm.Cond.static ({ cls := "jdk/internal/util/ArraysSupport", name := "newLength", desc := "(III)I" } : Jvm.MethodName)) ∈ lw_all := lw_g (lw_at lw_m1 93 rfl) rfl
theorem q94 : (Jvm.Cond.code ({ cls := "jdk/internal/util/ArraysSupport", name := "newLength", desc := "(III)I" } : Jvm.MethodName) prog_17_method_27_code (4 : Nat) (Option.some Jvm.ClassFile.FieldType.int)) ∈ lw_all := lw_g (lw_at lw_m1 94 rfl) rfl
theorem q95 : (Jvm.Cond.methodLink "jdk/internal/util/ArraysSupport" (194 : Nat) ({ cls := "java/lang/Math", name := "max", desc := "(II)I" } : Jvm.MethodName)) ∈ lw_all := lw_g (lw_at lw_m1 95 rfl) rfl
theorem q96 : (Jvm.Cond.static ({ cls := "java/lang/Math", name := "max", desc := "(II)I" } : Jvm.MethodName)) ∈ lw_all := lw_g (lw_at lw_m1 96 rfl) rfl
theorem q97 : (Jvm.Cond.code ({ cls := "java/lang/Math", name := "max", desc := "(II)I" } : Jvm.MethodName) prog_10_method_65_code (2 : Nat) (Option.some Jvm.ClassFile.FieldType.int)) ∈ lw_all := lw_g (lw_at lw_m1 97 rfl) rfl
theorem q98 : (Jvm.Cond.constant "jdk/internal/util/ArraysSupport" (200 : Nat) (2147483639 : Int32)) ∈ lw_all := lw_g (lw_at lw_m1 98 rfl) rfl
theorem q99 : (Jvm.Cond.methodLink "jdk/internal/util/ArraysSupport" (201 : Nat) ({ cls := "jdk/internal/util/ArraysSupport", name := "hugeLength", desc := "(II)I" } : Jvm.MethodName)) ∈ lw_all := lw_g (lw_at lw_m1 99 rfl) rfl
theorem q100 : (Jvm.Cond.static ({ cls := "jdk/internal/util/ArraysSupport", name := "hugeLength", desc := "(II)I" } : Jvm.MethodName)) ∈ lw_all := lw_g (lw_at lw_m1 100 rfl) rfl
theorem q101 : (Jvm.Cond.code ({ cls := "jdk/internal/util/ArraysSupport", name := "hugeLength", desc := "(II)I" } : Jvm.MethodName) prog_17_method_28_code (3 : Nat) (Option.some Jvm.ClassFile.FieldType.int)) ∈ lw_all := lw_g (lw_at lw_m1 101 rfl) rfl
theorem q102 : (Jvm.Cond.methodLink "java/lang/AbstractStringBuilder" (108 : Nat) ({ cls := "java/util/Arrays", name := "copyOf", desc := "([BI)[B" } : Jvm.MethodName)) ∈ lw_all := lw_g (lw_at lw_m1 102 rfl) rfl
theorem q103 : (Jvm.Cond.static ({ cls := "java/util/Arrays", name := "copyOf", desc := "([BI)[B" } : Jvm.MethodName)) ∈ lw_all := lw_g (lw_at lw_m1 103 rfl) rfl
theorem q104 : (Jvm.Cond.code ({ cls := "java/util/Arrays", name := "copyOf", desc := "([BI)[B" } : Jvm.MethodName) prog_16_method_121_code (3 : Nat) (Option.some (Jvm.ClassFile.FieldType.array Jvm.ClassFile.FieldType.byte))) ∈ lw_all := lw_g (lw_at lw_m1 104 rfl) rfl
theorem q105 : (Jvm.Cond.methodLink "java/util/Arrays" (310 : Nat) ({ cls := "[B", name := "clone", desc := "()Ljava/lang/Object;" } : Jvm.MethodName)) ∈ lw_all := lw_g (lw_at lw_m1 105 rfl) rfl
theorem q106 : (Jvm.Cond.sameMethod "[B" "java/lang/Object" "clone" "()Ljava/lang/Object;") ∈ lw_all := lw_g (lw_at lw_m1 106 rfl) rfl
theorem q107 : (Jvm.Cond.native ({ cls := "java/lang/Object", name := "clone", desc := "()Ljava/lang/Object;" } : Jvm.MethodName)) ∈ lw_all := lw_g (lw_at lw_m1 107 rfl) rfl
theorem q108 : (Jvm.Cond.instanceMethod ({ cls := "java/lang/Object", name := "clone", desc := "()Ljava/lang/Object;" } : Jvm.MethodName)) ∈ lw_all := lw_g (lw_at lw_m1 108 rfl) rfl
theorem q109 : (Jvm.Cond.selects "[B" ({ cls := "[B", name := "clone", desc := "()Ljava/lang/Object;" } : Jvm.MethodName) ({ cls := "java/lang/Object", name := "clone", desc := "()Ljava/lang/Object;" } : Jvm.MethodName)) ∈ lw_all := lw_g (lw_at lw_m1 109 rfl) rfl
theorem q110 : (Jvm.Cond.castable "[B" "java/lang/Cloneable") ∈ lw_tbl := lw_at lw_m1 110 rfl
theorem q111 : (Jvm.Cond.classLink "java/util/Arrays" (311 : Nat) "[B") ∈ lw_all := lw_g (lw_at lw_m1 111 rfl) rfl
theorem q112 : (Jvm.Cond.methodLink "java/util/Arrays" (304 : Nat) ({ cls := "java/lang/Math", name := "min", desc := "(II)I" } : Jvm.MethodName)) ∈ lw_all := lw_g (lw_at lw_m1 112 rfl) rfl
theorem q113 : (Jvm.Cond.static ({ cls := "java/lang/Math", name := "min", desc := "(II)I" } : Jvm.MethodName)) ∈ lw_all := lw_g (lw_at lw_m1 113 rfl) rfl
theorem q114 : (Jvm.Cond.code ({ cls := "java/lang/Math", name := "min", desc := "(II)I" } : Jvm.MethodName) prog_10_method_69_code (2 : Nat) (Option.some Jvm.ClassFile.FieldType.int)) ∈ lw_all := lw_g (lw_at lw_m1 114 rfl) rfl
theorem q115 : (Jvm.Cond.methodLink "java/util/Arrays" (150 : Nat) ({ cls := "java/lang/System", name := "arraycopy", desc := "(Ljava/lang/Object;ILjava/lang/Object;II)V" } : Jvm.MethodName)) ∈ lw_all := lw_g (lw_at lw_m1 115 rfl) rfl
theorem q116 : (Jvm.Cond.static ({ cls := "java/lang/System", name := "arraycopy", desc := "(Ljava/lang/Object;ILjava/lang/Object;II)V" } : Jvm.MethodName)) ∈ lw_all := lw_g (lw_at lw_m1 116 rfl) rfl
theorem q117 : (Jvm.Cond.native ({ cls := "java/lang/System", name := "arraycopy", desc := "(Ljava/lang/Object;ILjava/lang/Object;II)V" } : Jvm.MethodName)) ∈ lw_all := lw_g (lw_at lw_m1 117 rfl) rfl
theorem q118 : (Jvm.Cond.methodLink "java/lang/AbstractStringBuilder" (83 : Nat) ({ cls := "java/lang/AbstractStringBuilder", name := "isLatin1", desc := "()Z" } : Jvm.MethodName)) ∈ lw_all := lw_g (lw_at lw_m1 118 rfl) rfl
theorem q119 : (Jvm.Cond.instanceMethod ({ cls := "java/lang/AbstractStringBuilder", name := "isLatin1", desc := "()Z" } : Jvm.MethodName)) ∈ lw_all := lw_g (lw_at lw_m1 119 rfl) rfl
theorem q120 : (Jvm.Cond.sameMethod "java/lang/AbstractStringBuilder" "java/lang/AbstractStringBuilder" "isLatin1" "()Z") ∈ lw_all := lw_g (lw_at lw_m1 120 rfl) rfl
theorem q121 : (Jvm.Cond.selects "java/lang/StringBuilder" ({ cls := "java/lang/AbstractStringBuilder", name := "isLatin1", desc := "()Z" } : Jvm.MethodName) ({ cls := "java/lang/AbstractStringBuilder", name := "isLatin1", desc := "()Z" } : Jvm.MethodName)) ∈ lw_all := lw_g (lw_at lw_m1 121 rfl) rfl
theorem q122 : (Jvm.Cond.code ({ cls := "java/lang/AbstractStringBuilder", name := "isLatin1", desc := "()Z" } : Jvm.MethodName) prog_6_method_68_code (1 : Nat) (Option.some Jvm.ClassFile.FieldType.boolean)) ∈ lw_all := lw_g (lw_at lw_m1 122 rfl) rfl
theorem q123 : (Jvm.Cond.fieldLink "java/lang/AbstractStringBuilder" (18 : Nat) "java/lang/String" "COMPACT_STRINGS" "Z") ∈ lw_all := lw_g (lw_at lw_m1 123 rfl) rfl
theorem q124 : (Jvm.Cond.methodLink "java/lang/AbstractStringBuilder" (226 : Nat) ({ cls := "java/lang/StringUTF16", name := "putCharsAt", desc := "([BICCCC)I" } : Jvm.MethodName)) ∈ lw_all := lw_g (lw_at lw_m1 124 rfl) rfl
theorem q125 : (Jvm.Cond.static ({ cls := "java/lang/StringUTF16", name := "putCharsAt", desc := "([BICCCC)I" } : Jvm.MethodName)) ∈ lw_all := lw_g (lw_at lw_m1 125 rfl) rfl
theorem q126 : (Jvm.Cond.code ({ cls := "java/lang/StringUTF16", name := "putCharsAt", desc := "([BICCCC)I" } : Jvm.MethodName) prog_14_method_81_code (7 : Nat) (Option.some Jvm.ClassFile.FieldType.int)) ∈ lw_all := lw_g (lw_at lw_m1 126 rfl) rfl
theorem q127 : (Jvm.Cond.methodLink "java/lang/StringUTF16" (96 : Nat) ({ cls := "java/lang/StringUTF16", name := "checkBoundsBeginEnd", desc := "(II[B)V" } : Jvm.MethodName)) ∈ lw_all := lw_g (lw_at lw_m1 127 rfl) rfl
theorem q128 : (Jvm.Cond.static ({ cls := "java/lang/StringUTF16", name := "checkBoundsBeginEnd", desc := "(II[B)V" } : Jvm.MethodName)) ∈ lw_all := lw_g (lw_at lw_m1 128 rfl) rfl
theorem q129 : (Jvm.Cond.code ({ cls := "java/lang/StringUTF16", name := "checkBoundsBeginEnd", desc := "(II[B)V" } : Jvm.MethodName) prog_14_method_93_code (3 : Nat) (Option.none : Option Jvm.ClassFile.FieldType)) ∈ lw_all := lw_g (lw_at lw_m1 129 rfl) rfl
theorem q130 : (Jvm.Cond.methodLink "java/lang/StringUTF16" (48 : Nat) ({ cls := "java/lang/StringUTF16", name := "length", desc := "([B)I" } : Jvm.MethodName)) ∈ lw_all := lw_g (lw_at lw_m1 130 rfl) rfl
theorem q131 : (Jvm.Cond.static ({ cls := "java/lang/StringUTF16", name := "length", desc := "([B)I" } : Jvm.MethodName)) ∈ lw_all := lw_g (lw_at lw_m1 131 rfl) rfl
theorem q132 : (Jvm.Cond.code ({ cls := "java/lang/StringUTF16", name := "length", desc := "([B)I" } : Jvm.MethodName) prog_14_method_6_code (1 : Nat) (Option.some Jvm.ClassFile.FieldType.int)) ∈ lw_all := lw_g (lw_at lw_m1 132 rfl) rfl
theorem q133 : (Jvm.Cond.methodLink "java/lang/StringUTF16" (241 : Nat) ({ cls := "java/lang/String", name := "checkBoundsBeginEnd", desc := "(III)V" } : Jvm.MethodName)) ∈ lw_all := lw_g (lw_at lw_m1 133 rfl) rfl
theorem q134 : (Jvm.Cond.static ({ cls := "java/lang/String", name := "checkBoundsBeginEnd", desc := "(III)V" } : Jvm.MethodName)) ∈ lw_all := lw_g (lw_at lw_m1 134 rfl) rfl
theorem q135 : (Jvm.Cond.code ({ cls := "java/lang/String", name := "checkBoundsBeginEnd", desc := "(III)V" } : Jvm.MethodName) prog_11_method_158_code (3 : Nat) (Option.none : Option Jvm.ClassFile.FieldType)) ∈ lw_all := lw_g (lw_at lw_m1 135 rfl) rfl
theorem q136 : (Jvm.Cond.fieldLink "java/lang/String" (1053 : Nat) "jdk/internal/util/Preconditions" "SIOOBE_FORMATTER" "Ljava/util/function/BiFunction;") ∈ lw_all := lw_g (lw_at lw_m1 136 rfl) rfl
theorem q137 : (Jvm.Cond.laysStatic "jdk/internal/util/Preconditions" "SIOOBE_FORMATTER" "Ljava/util/function/BiFunction;") ∈ lw_tbl := lw_at lw_m1 137 rfl
theorem q138 : (Jvm.Cond.methodLink "java/lang/String" (1062 : Nat) ({ cls := "jdk/internal/util/Preconditions", name := "checkFromToIndex", desc := "(IIILjava/util/function/BiFunction;)I" } : Jvm.MethodName)) ∈ lw_all := lw_g (lw_at lw_m1 138 rfl) rfl
theorem q139 : (Jvm.Cond.static ({ cls := "jdk/internal/util/Preconditions", name := "checkFromToIndex", desc := "(IIILjava/util/function/BiFunction;)I" } : Jvm.MethodName)) ∈ lw_all := lw_g (lw_at lw_m1 139 rfl) rfl
theorem q140 : (Jvm.Cond.code ({ cls := "jdk/internal/util/Preconditions", name := "checkFromToIndex", desc := "(IIILjava/util/function/BiFunction;)I" } : Jvm.MethodName) prog_18_method_12_code (4 : Nat) (Option.some Jvm.ClassFile.FieldType.int)) ∈ lw_all := lw_g (lw_at lw_m1 140 rfl) rfl
theorem q141 : (Jvm.Cond.methodLink "java/lang/StringUTF16" (111 : Nat) ({ cls := "java/lang/StringUTF16", name := "putChar", desc := "([BII)V" } : Jvm.MethodName)) ∈ lw_all := lw_g (lw_at lw_m1 141 rfl) rfl
theorem q142 : (Jvm.Cond.static ({ cls := "java/lang/StringUTF16", name := "putChar", desc := "([BII)V" } : Jvm.MethodName)) ∈ lw_all := lw_g (lw_at lw_m1 142 rfl) rfl
theorem q143 : (Jvm.Cond.code ({ cls := "java/lang/StringUTF16", name := "putChar", desc := "([BII)V" } : Jvm.MethodName) prog_14_method_4_code (3 : Nat) (Option.none : Option Jvm.ClassFile.FieldType)) ∈ lw_all := lw_g (lw_at lw_m1 143 rfl) rfl
theorem q144 : (Jvm.Cond.fieldLink "java/lang/StringUTF16" (44 : Nat) "java/lang/StringUTF16" "$assertionsDisabled" "Z") ∈ lw_all := lw_g (lw_at lw_m1 144 rfl) rfl
theorem q145 : (Jvm.Cond.laysStatic "java/lang/StringUTF16" "$assertionsDisabled" "Z") ∈ lw_tbl := lw_at lw_m1 145 rfl
theorem q146 : (Jvm.Cond.fieldLink "java/lang/StringUTF16" (59 : Nat) "java/lang/StringUTF16" "HI_BYTE_SHIFT" "I") ∈ lw_all := lw_g (lw_at lw_m1 146 rfl) rfl
theorem q147 : (Jvm.Cond.laysStatic "java/lang/StringUTF16" "HI_BYTE_SHIFT" "I") ∈ lw_tbl := lw_at lw_m1 147 rfl
theorem q148 : (Jvm.Cond.fieldLink "java/lang/StringUTF16" (63 : Nat) "java/lang/StringUTF16" "LO_BYTE_SHIFT" "I") ∈ lw_all := lw_g (lw_at lw_m1 148 rfl) rfl
theorem q149 : (Jvm.Cond.laysStatic "java/lang/StringUTF16" "LO_BYTE_SHIFT" "I") ∈ lw_tbl := lw_at lw_m1 149 rfl
theorem q150 : (Jvm.Cond.methodLink "java/lang/AbstractStringBuilder" (208 : Nat) ({ cls := "java/lang/AbstractStringBuilder", name := "putStringAt", desc := "(ILjava/lang/String;)V" } : Jvm.MethodName)) ∈ lw_all := lw_g (lw_at lw_m1 150 rfl) rfl
theorem q151 : (Jvm.Cond.privateMethod ({ cls := "java/lang/AbstractStringBuilder", name := "putStringAt", desc := "(ILjava/lang/String;)V" } : Jvm.MethodName)) ∈ lw_tbl := lw_at lw_m1 151 rfl
theorem q152 : (Jvm.Cond.instanceMethod ({ cls := "java/lang/AbstractStringBuilder", name := "putStringAt", desc := "(ILjava/lang/String;)V" } : Jvm.MethodName)) ∈ lw_all := lw_g (lw_at lw_m1 152 rfl) rfl
theorem q153 : (Jvm.Cond.code ({ cls := "java/lang/AbstractStringBuilder", name := "putStringAt", desc := "(ILjava/lang/String;)V" } : Jvm.MethodName) prog_6_method_73_code (3 : Nat) (Option.none : Option Jvm.ClassFile.FieldType)) ∈ lw_all := lw_g (lw_at lw_m1 153 rfl) rfl
theorem q154 : (Jvm.Cond.methodLink "java/lang/AbstractStringBuilder" (397 : Nat) ({ cls := "java/lang/AbstractStringBuilder", name := "inflateIfNeededFor", desc := "(Ljava/lang/String;)V" } : Jvm.MethodName)) ∈ lw_all := lw_g (lw_at lw_m1 154 rfl) rfl
theorem q155 : (Jvm.Cond.privateMethod ({ cls := "java/lang/AbstractStringBuilder", name := "inflateIfNeededFor", desc := "(Ljava/lang/String;)V" } : Jvm.MethodName)) ∈ lw_tbl := lw_at lw_m1 155 rfl
theorem q156 : (Jvm.Cond.instanceMethod ({ cls := "java/lang/AbstractStringBuilder", name := "inflateIfNeededFor", desc := "(Ljava/lang/String;)V" } : Jvm.MethodName)) ∈ lw_all := lw_g (lw_at lw_m1 156 rfl) rfl
theorem q157 : (Jvm.Cond.code ({ cls := "java/lang/AbstractStringBuilder", name := "inflateIfNeededFor", desc := "(Ljava/lang/String;)V" } : Jvm.MethodName) prog_6_method_71_code (2 : Nat) (Option.none : Option Jvm.ClassFile.FieldType)) ∈ lw_all := lw_g (lw_at lw_m1 157 rfl) rfl
theorem q158 : (Jvm.Cond.methodLink "java/lang/AbstractStringBuilder" (195 : Nat) ({ cls := "java/lang/AbstractStringBuilder", name := "inflate", desc := "()V" } : Jvm.MethodName)) ∈ lw_all := lw_g (lw_at lw_m1 158 rfl) rfl
theorem q159 : (Jvm.Cond.privateMethod ({ cls := "java/lang/AbstractStringBuilder", name := "inflate", desc := "()V" } : Jvm.MethodName)) ∈ lw_tbl := lw_at lw_m1 159 rfl
theorem q160 : (Jvm.Cond.instanceMethod ({ cls := "java/lang/AbstractStringBuilder", name := "inflate", desc := "()V" } : Jvm.MethodName)) ∈ lw_all := lw_g (lw_at lw_m1 160 rfl) rfl
theorem q161 : (Jvm.Cond.code ({ cls := "java/lang/AbstractStringBuilder", name := "inflate", desc := "()V" } : Jvm.MethodName) prog_6_method_11_code (2 : Nat) (Option.none : Option Jvm.ClassFile.FieldType)) ∈ lw_all := lw_g (lw_at lw_m1 161 rfl) rfl
theorem q162 : (Jvm.Cond.methodLink "java/lang/AbstractStringBuilder" (125 : Nat) ({ cls := "java/lang/StringLatin1", name := "inflate", desc := "([BI[BII)V" } : Jvm.MethodName)) ∈ lw_all := lw_g (lw_at lw_m1 162 rfl) rfl
theorem q163 : (Jvm.Cond.static ({ cls := "java/lang/StringLatin1", name := "inflate", desc := "([BI[BII)V" } : Jvm.MethodName)) ∈ lw_all := lw_g (lw_at lw_m1 163 rfl) rfl
theorem q164 : (Jvm.Cond.code ({ cls := "java/lang/StringLatin1", name := "inflate", desc := "([BI[BII)V" } : Jvm.MethodName) prog_13_method_50_code (5 : Nat) (Option.none : Option Jvm.ClassFile.FieldType)) ∈ lw_all := lw_g (lw_at lw_m1 164 rfl) rfl
theorem q165 : (Jvm.Cond.methodLink "java/lang/StringLatin1" (240 : Nat) ({ cls := "java/lang/StringUTF16", name := "inflate", desc := "([BI[BII)V" } : Jvm.MethodName)) ∈ lw_all := lw_g (lw_at lw_m1 165 rfl) rfl
theorem q166 : (Jvm.Cond.static ({ cls := "java/lang/StringUTF16", name := "inflate", desc := "([BI[BII)V" } : Jvm.MethodName)) ∈ lw_all := lw_g (lw_at lw_m1 166 rfl) rfl
theorem q167 : (Jvm.Cond.code ({ cls := "java/lang/StringUTF16", name := "inflate", desc := "([BI[BII)V" } : Jvm.MethodName) prog_14_method_86_code (6 : Nat) (Option.none : Option Jvm.ClassFile.FieldType)) ∈ lw_all := lw_g (lw_at lw_m1 167 rfl) rfl
theorem q168 : (Jvm.Cond.methodLink "java/lang/StringUTF16" (173 : Nat) ({ cls := "java/lang/StringUTF16", name := "checkBoundsOffCount", desc := "(II[B)V" } : Jvm.MethodName)) ∈ lw_all := lw_g (lw_at lw_m1 168 rfl) rfl
theorem q169 : (Jvm.Cond.static ({ cls := "java/lang/StringUTF16", name := "checkBoundsOffCount", desc := "(II[B)V" } : Jvm.MethodName)) ∈ lw_all := lw_g (lw_at lw_m1 169 rfl) rfl
theorem q170 : (Jvm.Cond.code ({ cls := "java/lang/StringUTF16", name := "checkBoundsOffCount", desc := "(II[B)V" } : Jvm.MethodName) prog_14_method_94_code (3 : Nat) (Option.none : Option Jvm.ClassFile.FieldType)) ∈ lw_all := lw_g (lw_at lw_m1 170 rfl) rfl
theorem q171 : (Jvm.Cond.methodLink "java/lang/StringUTF16" (419 : Nat) ({ cls := "java/lang/String", name := "checkBoundsOffCount", desc := "(III)I" } : Jvm.MethodName)) ∈ lw_all := lw_g (lw_at lw_m1 171 rfl) rfl
theorem q172 : (Jvm.Cond.static ({ cls := "java/lang/String", name := "checkBoundsOffCount", desc := "(III)I" } : Jvm.MethodName)) ∈ lw_all := lw_g (lw_at lw_m1 172 rfl) rfl
theorem q173 : (Jvm.Cond.code ({ cls := "java/lang/String", name := "checkBoundsOffCount", desc := "(III)I" } : Jvm.MethodName) prog_11_method_157_code (3 : Nat) (Option.some Jvm.ClassFile.FieldType.int)) ∈ lw_all := lw_g (lw_at lw_m1 173 rfl) rfl
theorem q174 : (Jvm.Cond.methodLink "java/lang/String" (1065 : Nat) ({ cls := "jdk/internal/util/Preconditions", name := "checkFromIndexSize", desc := "(IIILjava/util/function/BiFunction;)I" } : Jvm.MethodName)) ∈ lw_all := lw_g (lw_at lw_m1 174 rfl) rfl
theorem q175 : (Jvm.Cond.static ({ cls := "jdk/internal/util/Preconditions", name := "checkFromIndexSize", desc := "(IIILjava/util/function/BiFunction;)I" } : Jvm.MethodName)) ∈ lw_all := lw_g (lw_at lw_m1 175 rfl) rfl
theorem q176 : (Jvm.Cond.code ({ cls := "jdk/internal/util/Preconditions", name := "checkFromIndexSize", desc := "(IIILjava/util/function/BiFunction;)I" } : Jvm.MethodName) prog_18_method_13_code (4 : Nat) (Option.some Jvm.ClassFile.FieldType.int)) ∈ lw_all := lw_g (lw_at lw_m1 176 rfl) rfl
theorem q177 : (Jvm.Cond.methodLink "java/lang/AbstractStringBuilder" (399 : Nat) ({ cls := "java/lang/String", name := "getBytes", desc := "([BIB)V" } : Jvm.MethodName)) ∈ lw_all := lw_g (lw_at lw_m1 177 rfl) rfl
theorem q178 : (Jvm.Cond.instanceMethod ({ cls := "java/lang/String", name := "getBytes", desc := "([BIB)V" } : Jvm.MethodName)) ∈ lw_all := lw_g (lw_at lw_m1 178 rfl) rfl
theorem q179 : (Jvm.Cond.selects "java/lang/String" ({ cls := "java/lang/String", name := "getBytes", desc := "([BIB)V" } : Jvm.MethodName) ({ cls := "java/lang/String", name := "getBytes", desc := "([BIB)V" } : Jvm.MethodName)) ∈ lw_all := lw_g (lw_at lw_m1 179 rfl) rfl
theorem q180 : (Jvm.Cond.code ({ cls := "java/lang/String", name := "getBytes", desc := "([BIB)V" } : Jvm.MethodName) prog_11_method_147_code (4 : Nat) (Option.none : Option Jvm.ClassFile.FieldType)) ∈ lw_all := lw_g (lw_at lw_m1 180 rfl) rfl
theorem q181 : (Jvm.Cond.methodLink "java/lang/String" (212 : Nat) ({ cls := "java/lang/System", name := "arraycopy", desc := "(Ljava/lang/Object;ILjava/lang/Object;II)V" } : Jvm.MethodName)) ∈ lw_all := lw_g (lw_at lw_m1 181 rfl) rfl
theorem q182 : (Jvm.Cond.methodLink "java/lang/String" (106 : Nat) ({ cls := "java/lang/StringLatin1", name := "inflate", desc := "([BI[BII)V" } : Jvm.MethodName)) ∈ lw_all := lw_g (lw_at lw_m1 182 rfl) rfl
theorem q183 : (Jvm.Cond.fieldLink "java/lang/AbstractStringBuilder" (15 : Nat) "java/lang/AbstractStringBuilder" "value" "[B") ∈ lw_all := lw_g (lw_at lw_m1 183 rfl) rfl
theorem q184 : (Jvm.Cond.fieldLink "java/lang/AbstractStringBuilder" (22 : Nat) "java/lang/AbstractStringBuilder" "coder" "B") ∈ lw_all := lw_g (lw_at lw_m1 184 rfl) rfl
theorem q185 : (Jvm.Cond.fieldLink "java/lang/String" (1048 : Nat) "java/lang/AbstractStringBuilder" "maybeLatin1" "Z") ∈ lw_all := lw_g (lw_at lw_m1 185 rfl) rfl
theorem q186 : (Jvm.Cond.fieldLink "java/lang/AbstractStringBuilder" (79 : Nat) "java/lang/AbstractStringBuilder" "count" "I") ∈ lw_all := lw_g (lw_at lw_m1 186 rfl) rfl
theorem q187 : (Jvm.Cond.lays "java/lang/StringBuilder" "java/lang/AbstractStringBuilder" "value" "[B") ∈ lw_all := lw_g (lw_at lw_m1 187 rfl) rfl
theorem q188 : (Jvm.Cond.soleField "java/lang/AbstractStringBuilder" "value") ∈ lw_all := lw_g (lw_at lw_m1 188 rfl) rfl
theorem q189 : (Jvm.Cond.lays "java/lang/StringBuilder" "java/lang/AbstractStringBuilder" "coder" "B") ∈ lw_all := lw_g (lw_at lw_m1 189 rfl) rfl
theorem q190 : (Jvm.Cond.soleField "java/lang/AbstractStringBuilder" "coder") ∈ lw_all := lw_g (lw_at lw_m1 190 rfl) rfl
theorem q191 : (Jvm.Cond.lays "java/lang/StringBuilder" "java/lang/AbstractStringBuilder" "maybeLatin1" "Z") ∈ lw_all := lw_g (lw_at lw_m1 191 rfl) rfl
theorem q192 : (Jvm.Cond.soleField "java/lang/AbstractStringBuilder" "maybeLatin1") ∈ lw_all := lw_g (lw_at lw_m1 192 rfl) rfl
theorem q193 : (Jvm.Cond.lays "java/lang/StringBuilder" "java/lang/AbstractStringBuilder" "count" "I") ∈ lw_all := lw_g (lw_at lw_m1 193 rfl) rfl
theorem q194 : (Jvm.Cond.soleField "java/lang/AbstractStringBuilder" "count") ∈ lw_all := lw_g (lw_at lw_m1 194 rfl) rfl
theorem q195 : (Jvm.Cond.methodLink "TextDesk" (30 : Nat) ({ cls := "TextDesk", name := "sign", desc := "(I)C" } : Jvm.MethodName)) ∈ lw_all := lw_g (lw_at lw_m1 195 rfl) rfl
theorem q196 : (Jvm.Cond.static ({ cls := "TextDesk", name := "sign", desc := "(I)C" } : Jvm.MethodName)) ∈ lw_all := lw_g (lw_at lw_m1 196 rfl) rfl
theorem q197 : (Jvm.Cond.code ({ cls := "TextDesk", name := "sign", desc := "(I)C" } : Jvm.MethodName) prog_4_method_2_code (1 : Nat) (Option.some Jvm.ClassFile.FieldType.char)) ∈ lw_all := lw_g (lw_at lw_m1 197 rfl) rfl
theorem q198 : (Jvm.Cond.constant "TextDesk" (18 : Nat) (2147483647 : Int32)) ∈ lw_all := lw_g (lw_at lw_m1 198 rfl) rfl
theorem q199 : (Jvm.Cond.methodLink "TextDesk" (34 : Nat) ({ cls := "java/lang/StringBuilder", name := "append", desc := "(C)Ljava/lang/StringBuilder;" } : Jvm.MethodName)) ∈ lw_all := lw_g (lw_at lw_m1 199 rfl) rfl
theorem q200 : (Jvm.Cond.instanceMethod ({ cls := "java/lang/StringBuilder", name := "append", desc := "(C)Ljava/lang/StringBuilder;" } : Jvm.MethodName)) ∈ lw_all := lw_g (lw_at lw_m1 200 rfl) rfl
theorem q201 : (Jvm.Cond.selects "java/lang/StringBuilder" ({ cls := "java/lang/StringBuilder", name := "append", desc := "(C)Ljava/lang/StringBuilder;" } : Jvm.MethodName) ({ cls := "java/lang/StringBuilder", name := "append", desc := "(C)Ljava/lang/StringBuilder;" } : Jvm.MethodName)) ∈ lw_all := lw_g (lw_at lw_m1 201 rfl) rfl
theorem q202 : (Jvm.Cond.code ({ cls := "java/lang/StringBuilder", name := "append", desc := "(C)Ljava/lang/StringBuilder;" } : Jvm.MethodName) prog_12_method_14_code (2 : Nat) (Option.some (Jvm.ClassFile.FieldType.object "java/lang/StringBuilder"))) ∈ lw_all := lw_g (lw_at lw_m1 202 rfl) rfl
theorem q203 : (Jvm.Cond.methodLink "java/lang/StringBuilder" (50 : Nat) ({ cls := "java/lang/AbstractStringBuilder", name := "append", desc := "(C)Ljava/lang/AbstractStringBuilder;" } : Jvm.MethodName)) ∈ lw_all := lw_g (lw_at lw_m1 203 rfl) rfl
theorem q204 : (Jvm.Cond.instanceMethod ({ cls := "java/lang/AbstractStringBuilder", name := "append", desc := "(C)Ljava/lang/AbstractStringBuilder;" } : Jvm.MethodName)) ∈ lw_all := lw_g (lw_at lw_m1 204 rfl) rfl
theorem q205 : (Jvm.Cond.code ({ cls := "java/lang/AbstractStringBuilder", name := "append", desc := "(C)Ljava/lang/AbstractStringBuilder;" } : Jvm.MethodName) prog_6_method_31_code (2 : Nat) (Option.some (Jvm.ClassFile.FieldType.object "java/lang/AbstractStringBuilder"))) ∈ lw_all := lw_g (lw_at lw_m1 205 rfl) rfl
theorem q206 : (Jvm.Cond.methodLink "java/lang/AbstractStringBuilder" (191 : Nat) ({ cls := "java/lang/StringLatin1", name := "canEncode", desc := "(C)Z" } : Jvm.MethodName)) ∈ lw_all := lw_g (lw_at lw_m1 206 rfl) rfl
theorem q207 : (Jvm.Cond.static ({ cls := "java/lang/StringLatin1", name := "canEncode", desc := "(C)Z" } : Jvm.MethodName)) ∈ lw_all := lw_g (lw_at lw_m1 207 rfl) rfl
theorem q208 : (Jvm.Cond.code ({ cls := "java/lang/StringLatin1", name := "canEncode", desc := "(C)Z" } : Jvm.MethodName) prog_13_method_3_code (1 : Nat) (Option.some Jvm.ClassFile.FieldType.boolean)) ∈ lw_all := lw_g (lw_at lw_m1 208 rfl) rfl
theorem q209 : (Jvm.Cond.methodLink "java/lang/AbstractStringBuilder" (197 : Nat) ({ cls := "java/lang/StringUTF16", name := "putCharSB", desc := "([BII)V" } : Jvm.MethodName)) ∈ lw_all := lw_g (lw_at lw_m1 209 rfl) rfl
theorem q210 : (Jvm.Cond.static ({ cls := "java/lang/StringUTF16", name := "putCharSB", desc := "([BII)V" } : Jvm.MethodName)) ∈ lw_all := lw_g (lw_at lw_m1 210 rfl) rfl
theorem q211 : (Jvm.Cond.code ({ cls := "java/lang/StringUTF16", name := "putCharSB", desc := "([BII)V" } : Jvm.MethodName) prog_14_method_71_code (3 : Nat) (Option.none : Option Jvm.ClassFile.FieldType)) ∈ lw_all := lw_g (lw_at lw_m1 211 rfl) rfl
theorem q212 : (Jvm.Cond.methodLink "java/lang/StringUTF16" (67 : Nat) ({ cls := "java/lang/StringUTF16", name := "checkIndex", desc := "(I[B)V" } : Jvm.MethodName)) ∈ lw_all := lw_g (lw_at lw_m1 212 rfl) rfl
theorem q213 : (Jvm.Cond.static ({ cls := "java/lang/StringUTF16", name := "checkIndex", desc := "(I[B)V" } : Jvm.MethodName)) ∈ lw_all := lw_g (lw_at lw_m1 213 rfl) rfl
theorem q214 : (Jvm.Cond.code ({ cls := "java/lang/StringUTF16", name := "checkIndex", desc := "(I[B)V" } : Jvm.MethodName) prog_14_method_91_code (2 : Nat) (Option.none : Option Jvm.ClassFile.FieldType)) ∈ lw_all := lw_g (lw_at lw_m1 214 rfl) rfl
theorem q215 : (Jvm.Cond.methodLink "java/lang/StringUTF16" (414 : Nat) ({ cls := "java/lang/String", name := "checkIndex", desc := "(II)V" } : Jvm.MethodName)) ∈ lw_all := lw_g (lw_at lw_m1 215 rfl) rfl
theorem q216 : (Jvm.Cond.static ({ cls := "java/lang/String", name := "checkIndex", desc := "(II)V" } : Jvm.MethodName)) ∈ lw_all := lw_g (lw_at lw_m1 216 rfl) rfl
theorem q217 : (Jvm.Cond.code ({ cls := "java/lang/String", name := "checkIndex", desc := "(II)V" } : Jvm.MethodName) prog_11_method_155_code (2 : Nat) (Option.none : Option Jvm.ClassFile.FieldType)) ∈ lw_all := lw_g (lw_at lw_m1 217 rfl) rfl
theorem q218 : (Jvm.Cond.methodLink "java/lang/String" (1059 : Nat) ({ cls := "jdk/internal/util/Preconditions", name := "checkIndex", desc := "(IILjava/util/function/BiFunction;)I" } : Jvm.MethodName)) ∈ lw_all := lw_g (lw_at lw_m1 218 rfl) rfl
theorem q219 : (Jvm.Cond.static ({ cls := "jdk/internal/util/Preconditions", name := "checkIndex", desc := "(IILjava/util/function/BiFunction;)I" } : Jvm.MethodName)) ∈ lw_all := lw_g (lw_at lw_m1 219 rfl) rfl
theorem q220 : (Jvm.Cond.code ({ cls := "jdk/internal/util/Preconditions", name := "checkIndex", desc := "(IILjava/util/function/BiFunction;)I" } : Jvm.MethodName) prog_18_method_11_code (3 : Nat) (Option.some Jvm.ClassFile.FieldType.int)) ∈ lw_all := lw_g (lw_at lw_m1 220 rfl) rfl
theorem q221 : (Jvm.Cond.methodLink "TextDesk" (38 : Nat) ({ cls := "java/lang/StringBuilder", name := "toString", desc := "()Ljava/lang/String;" } : Jvm.MethodName)) ∈ lw_all := lw_g (lw_at lw_m1 221 rfl) rfl
theorem q222 : (Jvm.Cond.instanceMethod ({ cls := "java/lang/StringBuilder", name := "toString", desc := "()Ljava/lang/String;" } : Jvm.MethodName)) ∈ lw_all := lw_g (lw_at lw_m1 222 rfl) rfl
theorem q223 : (Jvm.Cond.selects "java/lang/StringBuilder" ({ cls := "java/lang/StringBuilder", name := "toString", desc := "()Ljava/lang/String;" } : Jvm.MethodName) ({ cls := "java/lang/StringBuilder", name := "toString", desc := "()Ljava/lang/String;" } : Jvm.MethodName)) ∈ lw_all := lw_g (lw_at lw_m1 223 rfl) rfl
theorem q224 : (Jvm.Cond.code ({ cls := "java/lang/StringBuilder", name := "toString", desc := "()Ljava/lang/String;" } : Jvm.MethodName) prog_12_method_42_code (1 : Nat) (Option.some (Jvm.ClassFile.FieldType.object "java/lang/String"))) ∈ lw_all := lw_g (lw_at lw_m1 224 rfl) rfl
theorem q225 : (Jvm.Cond.classLink "java/lang/StringBuilder" (18 : Nat) "java/lang/String") ∈ lw_all := lw_g (lw_at lw_m1 225 rfl) rfl
theorem q226 : (Jvm.Cond.instantiable "java/lang/String" (4 : Nat)) ∈ lw_all := lw_g (lw_at lw_m1 226 rfl) rfl
theorem q227 : (Jvm.Cond.methodLink "java/lang/StringBuilder" (137 : Nat) ({ cls := "java/lang/String", name := "<init>", desc := "(Ljava/lang/StringBuilder;)V" } : Jvm.MethodName)) ∈ lw_all := lw_g (lw_at lw_m1 227 rfl) rfl
theorem q228 : (Jvm.Cond.instanceMethod ({ cls := "java/lang/String", name := "<init>", desc := "(Ljava/lang/StringBuilder;)V" } : Jvm.MethodName)) ∈ lw_all := lw_g (lw_at lw_m1 228 rfl) rfl
theorem q229 : (Jvm.Cond.code ({ cls := "java/lang/String", name := "<init>", desc := "(Ljava/lang/StringBuilder;)V" } : Jvm.MethodName) prog_11_method_53_code (2 : Nat) (Option.none : Option Jvm.ClassFile.FieldType)) ∈ lw_all := lw_g (lw_at lw_m1 229 rfl) rfl
theorem q230 : (Jvm.Cond.methodLink "java/lang/String" (489 : Nat) ({ cls := "java/lang/String", name := "<init>", desc := "(Ljava/lang/AbstractStringBuilder;Ljava/lang/Void;)V" } : Jvm.MethodName)) ∈ lw_all := lw_g (lw_at lw_m1 230 rfl) rfl
theorem q231 : (Jvm.Cond.instanceMethod ({ cls := "java/lang/String", name := "<init>", desc := "(Ljava/lang/AbstractStringBuilder;Ljava/lang/Void;)V" } : Jvm.MethodName)) ∈ lw_all := lw_g (lw_at lw_m1 231 rfl) rfl
theorem q232 : (Jvm.Cond.code ({ cls := "java/lang/String", name := "<init>", desc := "(Ljava/lang/AbstractStringBuilder;Ljava/lang/Void;)V" } : Jvm.MethodName) prog_11_method_150_code (5 : Nat) (Option.none : Option Jvm.ClassFile.FieldType)) ∈ lw_all := lw_g (lw_at lw_m1 232 rfl) rfl
theorem q233 : (Jvm.Cond.methodLink "java/lang/String" (1 : Nat) ({ cls := "java/lang/Object", name := "<init>", desc := "()V" } : Jvm.MethodName)) ∈ lw_all := lw_g (lw_at lw_m1 233 rfl) rfl
theorem q234 : (Jvm.Cond.methodLink "java/lang/String" (552 : Nat) ({ cls := "java/lang/AbstractStringBuilder", name := "getValue", desc := "()[B" } : Jvm.MethodName)) ∈ lw_all := lw_g (lw_at lw_m1 234 rfl) rfl
theorem q235 : (Jvm.Cond.instanceMethod ({ cls := "java/lang/AbstractStringBuilder", name := "getValue", desc := "()[B" } : Jvm.MethodName)) ∈ lw_all := lw_g (lw_at lw_m1 235 rfl) rfl
theorem q236 : (Jvm.Cond.sameMethod "java/lang/AbstractStringBuilder" "java/lang/AbstractStringBuilder" "getValue" "()[B") ∈ lw_all := lw_g (lw_at lw_m1 236 rfl) rfl
theorem q237 : (Jvm.Cond.selects "java/lang/StringBuilder" ({ cls := "java/lang/AbstractStringBuilder", name := "getValue", desc := "()[B" } : Jvm.MethodName) ({ cls := "java/lang/AbstractStringBuilder", name := "getValue", desc := "()[B" } : Jvm.MethodName)) ∈ lw_all := lw_g (lw_at lw_m1 237 rfl) rfl
theorem q238 : (Jvm.Cond.code ({ cls := "java/lang/AbstractStringBuilder", name := "getValue", desc := "()[B" } : Jvm.MethodName) prog_6_method_64_code (1 : Nat) (Option.some (Jvm.ClassFile.FieldType.array Jvm.ClassFile.FieldType.byte))) ∈ lw_all := lw_g (lw_at lw_m1 238 rfl) rfl
theorem q239 : (Jvm.Cond.methodLink "java/lang/String" (549 : Nat) ({ cls := "java/lang/AbstractStringBuilder", name := "length", desc := "()I" } : Jvm.MethodName)) ∈ lw_all := lw_g (lw_at lw_m1 239 rfl) rfl
theorem q240 : (Jvm.Cond.instanceMethod ({ cls := "java/lang/AbstractStringBuilder", name := "length", desc := "()I" } : Jvm.MethodName)) ∈ lw_all := lw_g (lw_at lw_m2 0 rfl) rfl
theorem q241 : (Jvm.Cond.sameMethod "java/lang/AbstractStringBuilder" "java/lang/AbstractStringBuilder" "length" "()I") ∈ lw_all := lw_g (lw_at lw_m2 1 rfl) rfl
theorem q242 : (Jvm.Cond.selects "java/lang/StringBuilder" ({ cls := "java/lang/AbstractStringBuilder", name := "length", desc := "()I" } : Jvm.MethodName) ({ cls := "java/lang/StringBuilder", name := "length", desc := "()I" } : Jvm.MethodName)) ∈ lw_all := lw_g (lw_at lw_m2 2 rfl) rfl
theorem q243 : (Jvm.Cond.instanceMethod ({ cls := "java/lang/StringBuilder", name := "length", desc := "()I" } : Jvm.MethodName)) ∈ lw_all := lw_g (lw_at lw_m2 3 rfl) rfl
theorem q244 : (Jvm.Cond.code ({ cls := "java/lang/StringBuilder", name := "length", desc := "()I" } : Jvm.MethodName) prog_12_method_93_code (1 : Nat) (Option.some Jvm.ClassFile.FieldType.int)) ∈ lw_all := lw_g (lw_at lw_m2 4 rfl) rfl
theorem q245 : (Jvm.Cond.methodLink "java/lang/StringBuilder" (343 : Nat) ({ cls := "java/lang/AbstractStringBuilder", name := "length", desc := "()I" } : Jvm.MethodName)) ∈ lw_all := lw_g (lw_at lw_m2 5 rfl) rfl
theorem q246 : (Jvm.Cond.code ({ cls := "java/lang/AbstractStringBuilder", name := "length", desc := "()I" } : Jvm.MethodName) prog_6_method_6_code (1 : Nat) (Option.some Jvm.ClassFile.FieldType.int)) ∈ lw_all := lw_g (lw_at lw_m2 6 rfl) rfl
theorem q247 : (Jvm.Cond.methodLink "java/lang/String" (1047 : Nat) ({ cls := "java/lang/AbstractStringBuilder", name := "isLatin1", desc := "()Z" } : Jvm.MethodName)) ∈ lw_all := lw_g (lw_at lw_m2 7 rfl) rfl
theorem q248 : (Jvm.Cond.methodLink "java/lang/String" (54 : Nat) ({ cls := "java/util/Arrays", name := "copyOfRange", desc := "([BII)[B" } : Jvm.MethodName)) ∈ lw_all := lw_g (lw_at lw_m2 8 rfl) rfl
theorem q249 : (Jvm.Cond.static ({ cls := "java/util/Arrays", name := "copyOfRange", desc := "([BII)[B" } : Jvm.MethodName)) ∈ lw_all := lw_g (lw_at lw_m2 9 rfl) rfl
theorem q250 : (Jvm.Cond.code ({ cls := "java/util/Arrays", name := "copyOfRange", desc := "([BII)[B" } : Jvm.MethodName) prog_16_method_132_code (3 : Nat) (Option.some (Jvm.ClassFile.FieldType.array Jvm.ClassFile.FieldType.byte))) ∈ lw_all := lw_g (lw_at lw_m2 10 rfl) rfl
theorem q251 : (Jvm.Cond.methodLink "java/util/Arrays" (339 : Nat) ({ cls := "java/util/Arrays", name := "copyOfRangeByte", desc := "([BII)[B" } : Jvm.MethodName)) ∈ lw_all := lw_g (lw_at lw_m2 11 rfl) rfl
theorem q252 : (Jvm.Cond.static ({ cls := "java/util/Arrays", name := "copyOfRangeByte", desc := "([BII)[B" } : Jvm.MethodName)) ∈ lw_all := lw_g (lw_at lw_m2 12 rfl) rfl
theorem q253 : (Jvm.Cond.code ({ cls := "java/util/Arrays", name := "copyOfRangeByte", desc := "([BII)[B" } : Jvm.MethodName) prog_16_method_133_code (5 : Nat) (Option.some (Jvm.ClassFile.FieldType.array Jvm.ClassFile.FieldType.byte))) ∈ lw_all := lw_g (lw_at lw_m2 13 rfl) rfl
theorem q254 : (Jvm.Cond.methodLink "java/util/Arrays" (343 : Nat) ({ cls := "java/util/Arrays", name := "checkLength", desc := "(II)V" } : Jvm.MethodName)) ∈ lw_all := lw_g (lw_at lw_m2 14 rfl) rfl
theorem q255 : (Jvm.Cond.static ({ cls := "java/util/Arrays", name := "checkLength", desc := "(II)V" } : Jvm.MethodName)) ∈ lw_all := lw_g (lw_at lw_m2 15 rfl) rfl
theorem q256 : (Jvm.Cond.code ({ cls := "java/util/Arrays", name := "checkLength", desc := "(II)V" } : Jvm.MethodName) prog_16_method_131_code (2 : Nat) (Option.none : Option Jvm.ClassFile.FieldType)) ∈ lw_all := lw_g (lw_at lw_m2 16 rfl) rfl
theorem q257 : (Jvm.Cond.methodLink "java/lang/String" (1051 : Nat) ({ cls := "java/lang/StringUTF16", name := "compress", desc := "([BII)[B" } : Jvm.MethodName)) ∈ lw_all := lw_g (lw_at lw_m2 17 rfl) rfl
theorem q258 : (Jvm.Cond.static ({ cls := "java/lang/StringUTF16", name := "compress", desc := "([BII)[B" } : Jvm.MethodName)) ∈ lw_all := lw_g (lw_at lw_m2 18 rfl) rfl
theorem q259 : (Jvm.Cond.code ({ cls := "java/lang/StringUTF16", name := "compress", desc := "([BII)[B" } : Jvm.MethodName) prog_14_method_17_code (6 : Nat) (Option.some (Jvm.ClassFile.FieldType.array Jvm.ClassFile.FieldType.byte))) ∈ lw_all := lw_g (lw_at lw_m2 19 rfl) rfl
theorem q260 : (Jvm.Cond.methodLink "java/lang/StringUTF16" (123 : Nat) ({ cls := "java/lang/StringUTF16", name := "compress", desc := "([BI[BII)I" } : Jvm.MethodName)) ∈ lw_all := lw_g (lw_at lw_m2 20 rfl) rfl
theorem q261 : (Jvm.Cond.static ({ cls := "java/lang/StringUTF16", name := "compress", desc := "([BI[BII)I" } : Jvm.MethodName)) ∈ lw_all := lw_g (lw_at lw_m2 21 rfl) rfl
theorem q262 : (Jvm.Cond.code ({ cls := "java/lang/StringUTF16", name := "compress", desc := "([BI[BII)I" } : Jvm.MethodName) prog_14_method_22_code (7 : Nat) (Option.some Jvm.ClassFile.FieldType.int)) ∈ lw_all := lw_g (lw_at lw_m2 22 rfl) rfl
theorem q263 : (Jvm.Cond.methodLink "java/lang/StringUTF16" (71 : Nat) ({ cls := "java/lang/StringUTF16", name := "getChar", desc := "([BI)C" } : Jvm.MethodName)) ∈ lw_all := lw_g (lw_at lw_m2 23 rfl) rfl
theorem q264 : (Jvm.Cond.static ({ cls := "java/lang/StringUTF16", name := "getChar", desc := "([BI)C" } : Jvm.MethodName)) ∈ lw_all := lw_g (lw_at lw_m2 24 rfl) rfl
theorem q265 : (Jvm.Cond.code ({ cls := "java/lang/StringUTF16", name := "getChar", desc := "([BI)C" } : Jvm.MethodName) prog_14_method_5_code (2 : Nat) (Option.some Jvm.ClassFile.FieldType.char)) ∈ lw_all := lw_g (lw_at lw_m2 25 rfl) rfl
theorem q266 : (Jvm.Cond.methodLink "java/lang/StringUTF16" (126 : Nat) ({ cls := "java/util/Arrays", name := "copyOfRange", desc := "([BII)[B" } : Jvm.MethodName)) ∈ lw_all := lw_g (lw_at lw_m2 26 rfl) rfl
theorem q267 : (Jvm.Cond.methodLink "java/lang/String" (47 : Nat) ({ cls := "java/lang/StringUTF16", name := "coderFromArrayLen", desc := "([BI)B" } : Jvm.MethodName)) ∈ lw_all := lw_g (lw_at lw_m2 27 rfl) rfl
theorem q268 : (Jvm.Cond.static ({ cls := "java/lang/StringUTF16", name := "coderFromArrayLen", desc := "([BI)B" } : Jvm.MethodName)) ∈ lw_all := lw_g (lw_at lw_m2 28 rfl) rfl
theorem q269 : (Jvm.Cond.code ({ cls := "java/lang/StringUTF16", name := "coderFromArrayLen", desc := "([BI)B" } : Jvm.MethodName) prog_14_method_15_code (2 : Nat) (Option.some Jvm.ClassFile.FieldType.byte)) ∈ lw_all := lw_g (lw_at lw_m2 29 rfl) rfl
theorem q270 : (Jvm.Cond.fieldLink "java/lang/String" (9 : Nat) "java/lang/String" "value" "[B") ∈ lw_all := lw_g (lw_at lw_m2 30 rfl) rfl
theorem q271 : (Jvm.Cond.fieldLink "java/lang/String" (15 : Nat) "java/lang/String" "coder" "B") ∈ lw_all := lw_g (lw_at lw_m2 31 rfl) rfl
theorem q272 : (Jvm.Cond.laysFinal "java/lang/String" "java/lang/String" "value" "[B") ∈ lw_all := lw_g (lw_at lw_m2 32 rfl) rfl
theorem q273 : (Jvm.Cond.soleField "java/lang/String" "value") ∈ lw_all := lw_g (lw_at lw_m2 33 rfl) rfl
theorem q274 : (Jvm.Cond.laysFinal "java/lang/String" "java/lang/String" "coder" "B") ∈ lw_all := lw_g (lw_at lw_m2 34 rfl) rfl
theorem q275 : (Jvm.Cond.soleField "java/lang/String" "coder") ∈ lw_all := lw_g (lw_at lw_m2 35 rfl) rfl
theorem q276 : (Jvm.Cond.lays "java/lang/String" "java/lang/String" "hash" "I") ∈ lw_all := lw_g (lw_at lw_m2 36 rfl) rfl
theorem q277 : (Jvm.Cond.soleField "java/lang/String" "hash") ∈ lw_all := lw_g (lw_at lw_m2 37 rfl) rfl
theorem q278 : (Jvm.Cond.lays "java/lang/String" "java/lang/String" "hashIsZero" "Z") ∈ lw_all := lw_g (lw_at lw_m2 38 rfl) rfl
theorem q279 : (Jvm.Cond.soleField "java/lang/String" "hashIsZero") ∈ lw_all := lw_g (lw_at lw_m2 39 rfl) rfl
theorem q280 : (Jvm.Cond.superclass "java/lang/String" "java/lang/Object") ∈ lw_all := lw_g (lw_at lw_m2 40 rfl) rfl
theorem q281 : (Jvm.Cond.methodLink "TextDeskLaw" (49 : Nat) ({ cls := "TextDesk", name := "empty", desc := "(I)V" } : Jvm.MethodName)) ∈ lw_all := lw_g (lw_at lw_m2 41 rfl) rfl
theorem q282 : (Jvm.Cond.instanceMethod ({ cls := "TextDesk", name := "empty", desc := "(I)V" } : Jvm.MethodName)) ∈ lw_all := lw_g (lw_at lw_m2 42 rfl) rfl
theorem q283 : (Jvm.Cond.selects "TextDesk" ({ cls := "TextDesk", name := "empty", desc := "(I)V" } : Jvm.MethodName) ({ cls := "TextDesk", name := "empty", desc := "(I)V" } : Jvm.MethodName)) ∈ lw_all := lw_g (lw_at lw_m2 43 rfl) rfl
theorem q284 : (Jvm.Cond.code ({ cls := "TextDesk", name := "empty", desc := "(I)V" } : Jvm.MethodName) prog_4_method_4_code (2 : Nat) (Option.none : Option Jvm.ClassFile.FieldType)) ∈ lw_all := lw_g (lw_at lw_m2 44 rfl) rfl
theorem q285 : (Jvm.Cond.methodLink "TextDeskLaw" (53 : Nat) ({ cls := "TextDesk", name := "padStart", desc := "(II)V" } : Jvm.MethodName)) ∈ lw_all := lw_g (lw_at lw_m2 45 rfl) rfl
theorem q286 : (Jvm.Cond.instanceMethod ({ cls := "TextDesk", name := "padStart", desc := "(II)V" } : Jvm.MethodName)) ∈ lw_all := lw_g (lw_at lw_m2 46 rfl) rfl
theorem q287 : (Jvm.Cond.selects "TextDesk" ({ cls := "TextDesk", name := "padStart", desc := "(II)V" } : Jvm.MethodName) ({ cls := "TextDesk", name := "padStart", desc := "(II)V" } : Jvm.MethodName)) ∈ lw_all := lw_g (lw_at lw_m2 47 rfl) rfl
theorem q288 : (Jvm.Cond.code ({ cls := "TextDesk", name := "padStart", desc := "(II)V" } : Jvm.MethodName) prog_4_method_7_code (3 : Nat) (Option.none : Option Jvm.ClassFile.FieldType)) ∈ lw_all := lw_g (lw_at lw_m2 48 rfl) rfl
theorem q289 : (Jvm.Cond.methodLink "TextDesk" (51 : Nat) ({ cls := "Strings", name := "padStart", desc := "(Ljava/lang/String;IC)Ljava/lang/String;" } : Jvm.MethodName)) ∈ lw_all := lw_g (lw_at lw_m2 49 rfl) rfl
theorem q290 : (Jvm.Cond.static ({ cls := "Strings", name := "padStart", desc := "(Ljava/lang/String;IC)Ljava/lang/String;" } : Jvm.MethodName)) ∈ lw_all := lw_g (lw_at lw_m2 50 rfl) rfl
theorem q291 : (Jvm.Cond.code ({ cls := "Strings", name := "padStart", desc := "(Ljava/lang/String;IC)Ljava/lang/String;" } : Jvm.MethodName) prog_3_method_1_code (5 : Nat) (Option.some (Jvm.ClassFile.FieldType.object "java/lang/String"))) ∈ lw_all := lw_g (lw_at lw_m2 51 rfl) rfl
theorem q292 : (Jvm.Cond.methodLink "Strings" (1 : Nat) ({ cls := "Preconditions", name := "checkNotNull", desc := "(Ljava/lang/Object;)Ljava/lang/Object;" } : Jvm.MethodName)) ∈ lw_all := lw_g (lw_at lw_m2 52 rfl) rfl
theorem q293 : (Jvm.Cond.static ({ cls := "Preconditions", name := "checkNotNull", desc := "(Ljava/lang/Object;)Ljava/lang/Object;" } : Jvm.MethodName)) ∈ lw_all := lw_g (lw_at lw_m2 53 rfl) rfl
theorem q294 : (Jvm.Cond.code ({ cls := "Preconditions", name := "checkNotNull", desc := "(Ljava/lang/Object;)Ljava/lang/Object;" } : Jvm.MethodName) prog_2_method_1_code (1 : Nat) (Option.some (Jvm.ClassFile.FieldType.object "java/lang/Object"))) ∈ lw_all := lw_g (lw_at lw_m2 54 rfl) rfl
theorem q295 : (Jvm.Cond.methodLink "Strings" (7 : Nat) ({ cls := "java/lang/String", name := "length", desc := "()I" } : Jvm.MethodName)) ∈ lw_all := lw_g (lw_at lw_m2 55 rfl) rfl
theorem q296 : (Jvm.Cond.classLink "Strings" (13 : Nat) "java/lang/StringBuilder") ∈ lw_all := lw_g (lw_at lw_m2 56 rfl) rfl
theorem q297 : (Jvm.Cond.methodLink "Strings" (15 : Nat) ({ cls := "java/lang/StringBuilder", name := "<init>", desc := "(I)V" } : Jvm.MethodName)) ∈ lw_all := lw_g (lw_at lw_m2 57 rfl) rfl
theorem q298 : (Jvm.Cond.instanceMethod ({ cls := "java/lang/StringBuilder", name := "<init>", desc := "(I)V" } : Jvm.MethodName)) ∈ lw_all := lw_g (lw_at lw_m2 58 rfl) rfl
theorem q299 : (Jvm.Cond.code ({ cls := "java/lang/StringBuilder", name := "<init>", desc := "(I)V" } : Jvm.MethodName) prog_12_method_2_code (2 : Nat) (Option.none : Option Jvm.ClassFile.FieldType)) ∈ lw_all := lw_g (lw_at lw_m2 59 rfl) rfl
theorem q300 : (Jvm.Cond.methodLink "java/lang/StringBuilder" (1 : Nat) ({ cls := "java/lang/AbstractStringBuilder", name := "<init>", desc := "(I)V" } : Jvm.MethodName)) ∈ lw_all := lw_g (lw_at lw_m2 60 rfl) rfl
theorem q301 : (Jvm.Cond.instanceMethod ({ cls := "java/lang/AbstractStringBuilder", name := "<init>", desc := "(I)V" } : Jvm.MethodName)) ∈ lw_all := lw_g (lw_at lw_m2 61 rfl) rfl
theorem q302 : (Jvm.Cond.code ({ cls := "java/lang/AbstractStringBuilder", name := "<init>", desc := "(I)V" } : Jvm.MethodName) prog_6_method_2_code (2 : Nat) (Option.none : Option Jvm.ClassFile.FieldType)) ∈ lw_all := lw_g (lw_at lw_m2 62 rfl) rfl
theorem q303 : (Jvm.Cond.methodLink "Strings" (19 : Nat) ({ cls := "java/lang/StringBuilder", name := "append", desc := "(C)Ljava/lang/StringBuilder;" } : Jvm.MethodName)) ∈ lw_all := lw_g (lw_at lw_m2 63 rfl) rfl
theorem q304 : (Jvm.Cond.methodLink "Strings" (23 : Nat) ({ cls := "java/lang/StringBuilder", name := "append", desc := "(Ljava/lang/String;)Ljava/lang/StringBuilder;" } : Jvm.MethodName)) ∈ lw_all := lw_g (lw_at lw_m2 64 rfl) rfl
theorem q305 : (Jvm.Cond.methodLink "Strings" (26 : Nat) ({ cls := "java/lang/StringBuilder", name := "toString", desc := "()Ljava/lang/String;" } : Jvm.MethodName)) ∈ lw_all := lw_g (lw_at lw_m2 65 rfl) rfl
theorem q306 : (Jvm.Cond.methodLink "TextDeskLaw" (64 : Nat) ({ cls := "TextDesk", name := "padEnd", desc := "(II)V" } : Jvm.MethodName)) ∈ lw_all := lw_g (lw_at lw_m2 66 rfl) rfl
theorem q307 : (Jvm.Cond.instanceMethod ({ cls := "TextDesk", name := "padEnd", desc := "(II)V" } : Jvm.MethodName)) ∈ lw_all := lw_g (lw_at lw_m2 67 rfl) rfl
theorem q308 : (Jvm.Cond.selects "TextDesk" ({ cls := "TextDesk", name := "padEnd", desc := "(II)V" } : Jvm.MethodName) ({ cls := "TextDesk", name := "padEnd", desc := "(II)V" } : Jvm.MethodName)) ∈ lw_all := lw_g (lw_at lw_m2 68 rfl) rfl
theorem q309 : (Jvm.Cond.code ({ cls := "TextDesk", name := "padEnd", desc := "(II)V" } : Jvm.MethodName) prog_4_method_8_code (3 : Nat) (Option.none : Option Jvm.ClassFile.FieldType)) ∈ lw_all := lw_g (lw_at lw_m2 69 rfl) rfl
theorem q310 : (Jvm.Cond.methodLink "TextDesk" (55 : Nat) ({ cls := "Strings", name := "padEnd", desc := "(Ljava/lang/String;IC)Ljava/lang/String;" } : Jvm.MethodName)) ∈ lw_all := lw_g (lw_at lw_m2 70 rfl) rfl
theorem q311 : (Jvm.Cond.static ({ cls := "Strings", name := "padEnd", desc := "(Ljava/lang/String;IC)Ljava/lang/String;" } : Jvm.MethodName)) ∈ lw_all := lw_g (lw_at lw_m2 71 rfl) rfl
theorem q312 : (Jvm.Cond.code ({ cls := "Strings", name := "padEnd", desc := "(Ljava/lang/String;IC)Ljava/lang/String;" } : Jvm.MethodName) prog_3_method_2_code (5 : Nat) (Option.some (Jvm.ClassFile.FieldType.object "java/lang/String"))) ∈ lw_all := lw_g (lw_at lw_m2 72 rfl) rfl
theorem q313 : (Jvm.Cond.methodLink "TextDeskLaw" (67 : Nat) ({ cls := "TextDesk", name := "lower", desc := "(I)V" } : Jvm.MethodName)) ∈ lw_all := lw_g (lw_at lw_m2 73 rfl) rfl
theorem q314 : (Jvm.Cond.instanceMethod ({ cls := "TextDesk", name := "lower", desc := "(I)V" } : Jvm.MethodName)) ∈ lw_all := lw_g (lw_at lw_m2 74 rfl) rfl
theorem q315 : (Jvm.Cond.selects "TextDesk" ({ cls := "TextDesk", name := "lower", desc := "(I)V" } : Jvm.MethodName) ({ cls := "TextDesk", name := "lower", desc := "(I)V" } : Jvm.MethodName)) ∈ lw_all := lw_g (lw_at lw_m2 75 rfl) rfl
theorem q316 : (Jvm.Cond.code ({ cls := "TextDesk", name := "lower", desc := "(I)V" } : Jvm.MethodName) prog_4_method_9_code (2 : Nat) (Option.none : Option Jvm.ClassFile.FieldType)) ∈ lw_all := lw_g (lw_at lw_m2 76 rfl) rfl
theorem q317 : (Jvm.Cond.methodLink "TextDesk" (58 : Nat) ({ cls := "Ascii", name := "toLowerCase", desc := "(Ljava/lang/String;)Ljava/lang/String;" } : Jvm.MethodName)) ∈ lw_all := lw_g (lw_at lw_m2 77 rfl) rfl
theorem q318 : (Jvm.Cond.static ({ cls := "Ascii", name := "toLowerCase", desc := "(Ljava/lang/String;)Ljava/lang/String;" } : Jvm.MethodName)) ∈ lw_all := lw_g (lw_at lw_m2 78 rfl) rfl
theorem q319 : (Jvm.Cond.code ({ cls := "Ascii", name := "toLowerCase", desc := "(Ljava/lang/String;)Ljava/lang/String;" } : Jvm.MethodName) prog_1_method_1_code (5 : Nat) (Option.some (Jvm.ClassFile.FieldType.object "java/lang/String"))) ∈ lw_all := lw_g (lw_at lw_m2 79 rfl) rfl
theorem q320 : (Jvm.Cond.methodLink "Ascii" (1 : Nat) ({ cls := "java/lang/String", name := "length", desc := "()I" } : Jvm.MethodName)) ∈ lw_all := lw_g (lw_at lw_m2 80 rfl) rfl
theorem q321 : (Jvm.Cond.methodLink "Ascii" (7 : Nat) ({ cls := "java/lang/String", name := "charAt", desc := "(I)C" } : Jvm.MethodName)) ∈ lw_all := lw_g (lw_at lw_m2 81 rfl) rfl
theorem q322 : (Jvm.Cond.instanceMethod ({ cls := "java/lang/String", name := "charAt", desc := "(I)C" } : Jvm.MethodName)) ∈ lw_all := lw_g (lw_at lw_m2 82 rfl) rfl
theorem q323 : (Jvm.Cond.selects "java/lang/String" ({ cls := "java/lang/String", name := "charAt", desc := "(I)C" } : Jvm.MethodName) ({ cls := "java/lang/String", name := "charAt", desc := "(I)C" } : Jvm.MethodName)) ∈ lw_all := lw_g (lw_at lw_m2 83 rfl) rfl
theorem q324 : (Jvm.Cond.code ({ cls := "java/lang/String", name := "charAt", desc := "(I)C" } : Jvm.MethodName) prog_11_method_56_code (2 : Nat) (Option.some Jvm.ClassFile.FieldType.char)) ∈ lw_all := lw_g (lw_at lw_m2 84 rfl) rfl
theorem q325 : (Jvm.Cond.methodLink "java/lang/String" (492 : Nat) ({ cls := "java/lang/String", name := "isLatin1", desc := "()Z" } : Jvm.MethodName)) ∈ lw_all := lw_g (lw_at lw_m2 85 rfl) rfl
theorem q326 : (Jvm.Cond.instanceMethod ({ cls := "java/lang/String", name := "isLatin1", desc := "()Z" } : Jvm.MethodName)) ∈ lw_all := lw_g (lw_at lw_m2 86 rfl) rfl
theorem q327 : (Jvm.Cond.selects "java/lang/String" ({ cls := "java/lang/String", name := "isLatin1", desc := "()Z" } : Jvm.MethodName) ({ cls := "java/lang/String", name := "isLatin1", desc := "()Z" } : Jvm.MethodName)) ∈ lw_all := lw_g (lw_at lw_m2 87 rfl) rfl
theorem q328 : (Jvm.Cond.code ({ cls := "java/lang/String", name := "isLatin1", desc := "()Z" } : Jvm.MethodName) prog_11_method_154_code (1 : Nat) (Option.some Jvm.ClassFile.FieldType.boolean)) ∈ lw_all := lw_g (lw_at lw_m2 88 rfl) rfl
theorem q329 : (Jvm.Cond.methodLink "java/lang/String" (495 : Nat) ({ cls := "java/lang/StringLatin1", name := "charAt", desc := "([BI)C" } : Jvm.MethodName)) ∈ lw_all := lw_g (lw_at lw_m2 89 rfl) rfl
theorem q330 : (Jvm.Cond.static ({ cls := "java/lang/StringLatin1", name := "charAt", desc := "([BI)C" } : Jvm.MethodName)) ∈ lw_all := lw_g (lw_at lw_m2 90 rfl) rfl
theorem q331 : (Jvm.Cond.code ({ cls := "java/lang/StringLatin1", name := "charAt", desc := "([BI)C" } : Jvm.MethodName) prog_13_method_2_code (2 : Nat) (Option.some Jvm.ClassFile.FieldType.char)) ∈ lw_all := lw_g (lw_at lw_m2 91 rfl) rfl
theorem q332 : (Jvm.Cond.methodLink "java/lang/StringLatin1" (9 : Nat) ({ cls := "java/lang/String", name := "checkIndex", desc := "(II)V" } : Jvm.MethodName)) ∈ lw_all := lw_g (lw_at lw_m2 92 rfl) rfl
theorem q333 : (Jvm.Cond.methodLink "java/lang/String" (498 : Nat) ({ cls := "java/lang/StringUTF16", name := "charAt", desc := "([BI)C" } : Jvm.MethodName)) ∈ lw_all := lw_g (lw_at lw_m2 93 rfl) rfl
theorem q334 : (Jvm.Cond.static ({ cls := "java/lang/StringUTF16", name := "charAt", desc := "([BI)C" } : Jvm.MethodName)) ∈ lw_all := lw_g (lw_at lw_m2 94 rfl) rfl
theorem q335 : (Jvm.Cond.code ({ cls := "java/lang/StringUTF16", name := "charAt", desc := "([BI)C" } : Jvm.MethodName) prog_14_method_83_code (2 : Nat) (Option.some Jvm.ClassFile.FieldType.char)) ∈ lw_all := lw_g (lw_at lw_m2 95 rfl) rfl
theorem q336 : (Jvm.Cond.methodLink "Ascii" (11 : Nat) ({ cls := "Ascii", name := "isUpperCase", desc := "(C)Z" } : Jvm.MethodName)) ∈ lw_all := lw_g (lw_at lw_m2 96 rfl) rfl
theorem q337 : (Jvm.Cond.static ({ cls := "Ascii", name := "isUpperCase", desc := "(C)Z" } : Jvm.MethodName)) ∈ lw_all := lw_g (lw_at lw_m2 97 rfl) rfl
theorem q338 : (Jvm.Cond.code ({ cls := "Ascii", name := "isUpperCase", desc := "(C)Z" } : Jvm.MethodName) prog_1_method_4_code (1 : Nat) (Option.some Jvm.ClassFile.FieldType.boolean)) ∈ lw_all := lw_g (lw_at lw_m2 98 rfl) rfl
theorem q339 : (Jvm.Cond.methodLink "Ascii" (17 : Nat) ({ cls := "java/lang/String", name := "toCharArray", desc := "()[C" } : Jvm.MethodName)) ∈ lw_all := lw_g (lw_at lw_m2 99 rfl) rfl
theorem q340 : (Jvm.Cond.instanceMethod ({ cls := "java/lang/String", name := "toCharArray", desc := "()[C" } : Jvm.MethodName)) ∈ lw_all := lw_g (lw_at lw_m2 100 rfl) rfl
theorem q341 : (Jvm.Cond.selects "java/lang/String" ({ cls := "java/lang/String", name := "toCharArray", desc := "()[C" } : Jvm.MethodName) ({ cls := "java/lang/String", name := "toCharArray", desc := "()[C" } : Jvm.MethodName)) ∈ lw_all := lw_g (lw_at lw_m2 101 rfl) rfl
theorem q342 : (Jvm.Cond.code ({ cls := "java/lang/String", name := "toCharArray", desc := "()[C" } : Jvm.MethodName) prog_11_method_129_code (1 : Nat) (Option.some (Jvm.ClassFile.FieldType.array Jvm.ClassFile.FieldType.char))) ∈ lw_all := lw_g (lw_at lw_m2 102 rfl) rfl
theorem q343 : (Jvm.Cond.methodLink "java/lang/String" (299 : Nat) ({ cls := "java/lang/StringLatin1", name := "toChars", desc := "([B)[C" } : Jvm.MethodName)) ∈ lw_all := lw_g (lw_at lw_m2 103 rfl) rfl
theorem q344 : (Jvm.Cond.static ({ cls := "java/lang/StringLatin1", name := "toChars", desc := "([B)[C" } : Jvm.MethodName)) ∈ lw_all := lw_g (lw_at lw_m2 104 rfl) rfl
theorem q345 : (Jvm.Cond.code ({ cls := "java/lang/StringLatin1", name := "toChars", desc := "([B)[C" } : Jvm.MethodName) prog_13_method_9_code (2 : Nat) (Option.some (Jvm.ClassFile.FieldType.array Jvm.ClassFile.FieldType.char))) ∈ lw_all := lw_g (lw_at lw_m2 105 rfl) rfl
theorem q346 : (Jvm.Cond.methodLink "java/lang/StringLatin1" (13 : Nat) ({ cls := "java/lang/StringLatin1", name := "inflate", desc := "([BI[CII)V" } : Jvm.MethodName)) ∈ lw_all := lw_g (lw_at lw_m2 106 rfl) rfl
theorem q347 : (Jvm.Cond.static ({ cls := "java/lang/StringLatin1", name := "inflate", desc := "([BI[CII)V" } : Jvm.MethodName)) ∈ lw_all := lw_g (lw_at lw_m2 107 rfl) rfl
theorem q348 : (Jvm.Cond.code ({ cls := "java/lang/StringLatin1", name := "inflate", desc := "([BI[CII)V" } : Jvm.MethodName) prog_13_method_49_code (6 : Nat) (Option.none : Option Jvm.ClassFile.FieldType)) ∈ lw_all := lw_g (lw_at lw_m2 108 rfl) rfl
theorem q349 : (Jvm.Cond.methodLink "java/lang/String" (303 : Nat) ({ cls := "java/lang/StringUTF16", name := "toChars", desc := "([B)[C" } : Jvm.MethodName)) ∈ lw_all := lw_g (lw_at lw_m2 109 rfl) rfl
theorem q350 : (Jvm.Cond.static ({ cls := "java/lang/StringUTF16", name := "toChars", desc := "([B)[C" } : Jvm.MethodName)) ∈ lw_all := lw_g (lw_at lw_m2 110 rfl) rfl
theorem q351 : (Jvm.Cond.code ({ cls := "java/lang/StringUTF16", name := "toChars", desc := "([B)[C" } : Jvm.MethodName) prog_14_method_13_code (2 : Nat) (Option.some (Jvm.ClassFile.FieldType.array Jvm.ClassFile.FieldType.char))) ∈ lw_all := lw_g (lw_at lw_m2 111 rfl) rfl
theorem q352 : (Jvm.Cond.methodLink "java/lang/StringUTF16" (103 : Nat) ({ cls := "java/lang/StringUTF16", name := "getChars", desc := "([BII[CI)V" } : Jvm.MethodName)) ∈ lw_all := lw_g (lw_at lw_m2 112 rfl) rfl
theorem q353 : (Jvm.Cond.static ({ cls := "java/lang/StringUTF16", name := "getChars", desc := "([BII[CI)V" } : Jvm.MethodName)) ∈ lw_all := lw_g (lw_at lw_m2 113 rfl) rfl
theorem q354 : (Jvm.Cond.code ({ cls := "java/lang/StringUTF16", name := "getChars", desc := "([BII[CI)V" } : Jvm.MethodName) prog_14_method_26_code (6 : Nat) (Option.none : Option Jvm.ClassFile.FieldType)) ∈ lw_all := lw_g (lw_at lw_m2 114 rfl) rfl
theorem q355 : (Jvm.Cond.methodLink "Ascii" (21 : Nat) ({ cls := "java/lang/String", name := "valueOf", desc := "([C)Ljava/lang/String;" } : Jvm.MethodName)) ∈ lw_all := lw_g (lw_at lw_m2 115 rfl) rfl
theorem q356 : (Jvm.Cond.static ({ cls := "java/lang/String", name := "valueOf", desc := "([C)Ljava/lang/String;" } : Jvm.MethodName)) ∈ lw_all := lw_g (lw_at lw_m2 116 rfl) rfl
theorem q357 : (Jvm.Cond.code ({ cls := "java/lang/String", name := "valueOf", desc := "([C)Ljava/lang/String;" } : Jvm.MethodName) prog_11_method_134_code (1 : Nat) (Option.some (Jvm.ClassFile.FieldType.object "java/lang/String"))) ∈ lw_all := lw_g (lw_at lw_m2 117 rfl) rfl
theorem q358 : (Jvm.Cond.classLink "java/lang/String" (10 : Nat) "java/lang/String") ∈ lw_all := lw_g (lw_at lw_m2 118 rfl) rfl
theorem q359 : (Jvm.Cond.methodLink "java/lang/String" (1008 : Nat) ({ cls := "java/lang/String", name := "<init>", desc := "([C)V" } : Jvm.MethodName)) ∈ lw_all := lw_g (lw_at lw_m2 119 rfl) rfl
theorem q360 : (Jvm.Cond.instanceMethod ({ cls := "java/lang/String", name := "<init>", desc := "([C)V" } : Jvm.MethodName)) ∈ lw_all := lw_g (lw_at lw_m2 120 rfl) rfl
theorem q361 : (Jvm.Cond.code ({ cls := "java/lang/String", name := "<init>", desc := "([C)V" } : Jvm.MethodName) prog_11_method_3_code (2 : Nat) (Option.none : Option Jvm.ClassFile.FieldType)) ∈ lw_all := lw_g (lw_at lw_m2 121 rfl) rfl
theorem q362 : (Jvm.Cond.methodLink "java/lang/String" (27 : Nat) ({ cls := "java/lang/String", name := "<init>", desc := "([CIILjava/lang/Void;)V" } : Jvm.MethodName)) ∈ lw_all := lw_g (lw_at lw_m2 122 rfl) rfl
theorem q363 : (Jvm.Cond.instanceMethod ({ cls := "java/lang/String", name := "<init>", desc := "([CIILjava/lang/Void;)V" } : Jvm.MethodName)) ∈ lw_all := lw_g (lw_at lw_m2 123 rfl) rfl
theorem q364 : (Jvm.Cond.code ({ cls := "java/lang/String", name := "<init>", desc := "([CIILjava/lang/Void;)V" } : Jvm.MethodName) prog_11_method_149_code (6 : Nat) (Option.none : Option Jvm.ClassFile.FieldType)) ∈ lw_all := lw_g (lw_at lw_m2 124 rfl) rfl
theorem q365 : (Jvm.Cond.stringRef "java/lang/String" (7 : Nat) "") ∈ lw_tbl := lw_at lw_m2 125 rfl
theorem q366 : (Jvm.Cond.methodLink "java/lang/String" (177 : Nat) ({ cls := "java/lang/StringUTF16", name := "compress", desc := "([CII)[B" } : Jvm.MethodName)) ∈ lw_all := lw_g (lw_at lw_m2 126 rfl) rfl
theorem q367 : (Jvm.Cond.static ({ cls := "java/lang/StringUTF16", name := "compress", desc := "([CII)[B" } : Jvm.MethodName)) ∈ lw_all := lw_g (lw_at lw_m2 127 rfl) rfl
theorem q368 : (Jvm.Cond.code ({ cls := "java/lang/StringUTF16", name := "compress", desc := "([CII)[B" } : Jvm.MethodName) prog_14_method_16_code (6 : Nat) (Option.some (Jvm.ClassFile.FieldType.array Jvm.ClassFile.FieldType.byte))) ∈ lw_all := lw_g (lw_at lw_m2 128 rfl) rfl
theorem q369 : (Jvm.Cond.methodLink "java/lang/StringUTF16" (115 : Nat) ({ cls := "java/lang/StringUTF16", name := "compress", desc := "([CI[BII)I" } : Jvm.MethodName)) ∈ lw_all := lw_g (lw_at lw_m2 129 rfl) rfl
theorem q370 : (Jvm.Cond.static ({ cls := "java/lang/StringUTF16", name := "compress", desc := "([CI[BII)I" } : Jvm.MethodName)) ∈ lw_all := lw_g (lw_at lw_m2 130 rfl) rfl
theorem q371 : (Jvm.Cond.code ({ cls := "java/lang/StringUTF16", name := "compress", desc := "([CI[BII)I" } : Jvm.MethodName) prog_14_method_21_code (7 : Nat) (Option.some Jvm.ClassFile.FieldType.int)) ∈ lw_all := lw_g (lw_at lw_m2 131 rfl) rfl
theorem q372 : (Jvm.Cond.methodLink "java/lang/StringUTF16" (119 : Nat) ({ cls := "java/lang/StringUTF16", name := "toBytes", desc := "([CII)[B" } : Jvm.MethodName)) ∈ lw_all := lw_g (lw_at lw_m2 132 rfl) rfl
theorem q373 : (Jvm.Cond.static ({ cls := "java/lang/StringUTF16", name := "toBytes", desc := "([CII)[B" } : Jvm.MethodName)) ∈ lw_all := lw_g (lw_at lw_m2 133 rfl) rfl
theorem q374 : (Jvm.Cond.code ({ cls := "java/lang/StringUTF16", name := "toBytes", desc := "([CII)[B" } : Jvm.MethodName) prog_14_method_14_code (5 : Nat) (Option.some (Jvm.ClassFile.FieldType.array Jvm.ClassFile.FieldType.byte))) ∈ lw_all := lw_g (lw_at lw_m2 134 rfl) rfl
theorem q375 : (Jvm.Cond.methodLink "java/lang/StringUTF16" (107 : Nat) ({ cls := "java/lang/StringUTF16", name := "newBytesFor", desc := "(I)[B" } : Jvm.MethodName)) ∈ lw_all := lw_g (lw_at lw_m2 135 rfl) rfl
theorem q376 : (Jvm.Cond.methodLink "java/lang/String" (180 : Nat) ({ cls := "java/lang/StringUTF16", name := "toBytes", desc := "([CII)[B" } : Jvm.MethodName)) ∈ lw_all := lw_g (lw_at lw_m2 136 rfl) rfl
theorem q377 : (Jvm.Cond.arrayClass Jvm.ClassFile.FieldType.char) ∈ lw_all := lw_g (lw_at lw_m2 137 rfl) rfl
theorem q378 : (Jvm.Cond.methodLink "TextDeskLaw" (73 : Nat) ({ cls := "TextDesk", name := "upper", desc := "(I)V" } : Jvm.MethodName)) ∈ lw_all := lw_g (lw_at lw_m2 138 rfl) rfl
theorem q379 : (Jvm.Cond.instanceMethod ({ cls := "TextDesk", name := "upper", desc := "(I)V" } : Jvm.MethodName)) ∈ lw_all := lw_g (lw_at lw_m2 139 rfl) rfl
theorem q380 : (Jvm.Cond.selects "TextDesk" ({ cls := "TextDesk", name := "upper", desc := "(I)V" } : Jvm.MethodName) ({ cls := "TextDesk", name := "upper", desc := "(I)V" } : Jvm.MethodName)) ∈ lw_all := lw_g (lw_at lw_m2 140 rfl) rfl
theorem q381 : (Jvm.Cond.code ({ cls := "TextDesk", name := "upper", desc := "(I)V" } : Jvm.MethodName) prog_4_method_10_code (2 : Nat) (Option.none : Option Jvm.ClassFile.FieldType)) ∈ lw_all := lw_g (lw_at lw_m2 141 rfl) rfl
theorem q382 : (Jvm.Cond.methodLink "TextDesk" (64 : Nat) ({ cls := "Ascii", name := "toUpperCase", desc := "(Ljava/lang/String;)Ljava/lang/String;" } : Jvm.MethodName)) ∈ lw_all := lw_g (lw_at lw_m2 142 rfl) rfl
theorem q383 : (Jvm.Cond.static ({ cls := "Ascii", name := "toUpperCase", desc := "(Ljava/lang/String;)Ljava/lang/String;" } : Jvm.MethodName)) ∈ lw_all := lw_g (lw_at lw_m2 143 rfl) rfl
theorem q384 : (Jvm.Cond.code ({ cls := "Ascii", name := "toUpperCase", desc := "(Ljava/lang/String;)Ljava/lang/String;" } : Jvm.MethodName) prog_1_method_2_code (5 : Nat) (Option.some (Jvm.ClassFile.FieldType.object "java/lang/String"))) ∈ lw_all := lw_g (lw_at lw_m2 144 rfl) rfl
theorem q385 : (Jvm.Cond.methodLink "Ascii" (25 : Nat) ({ cls := "Ascii", name := "isLowerCase", desc := "(C)Z" } : Jvm.MethodName)) ∈ lw_all := lw_g (lw_at lw_m2 145 rfl) rfl
theorem q386 : (Jvm.Cond.static ({ cls := "Ascii", name := "isLowerCase", desc := "(C)Z" } : Jvm.MethodName)) ∈ lw_all := lw_g (lw_at lw_m2 146 rfl) rfl
theorem q387 : (Jvm.Cond.code ({ cls := "Ascii", name := "isLowerCase", desc := "(C)Z" } : Jvm.MethodName) prog_1_method_3_code (1 : Nat) (Option.some Jvm.ClassFile.FieldType.boolean)) ∈ lw_all := lw_g (lw_at lw_m2 147 rfl) rfl
theorem q388 : (Jvm.Cond.methodLink "TextDeskLaw" (29 : Nat) ({ cls := "TextDesk", name := "alike", desc := "()Z" } : Jvm.MethodName)) ∈ lw_all := lw_g (lw_at lw_m2 148 rfl) rfl
theorem q389 : (Jvm.Cond.instanceMethod ({ cls := "TextDesk", name := "alike", desc := "()Z" } : Jvm.MethodName)) ∈ lw_all := lw_g (lw_at lw_m2 149 rfl) rfl
theorem q390 : (Jvm.Cond.selects "TextDesk" ({ cls := "TextDesk", name := "alike", desc := "()Z" } : Jvm.MethodName) ({ cls := "TextDesk", name := "alike", desc := "()Z" } : Jvm.MethodName)) ∈ lw_all := lw_g (lw_at lw_m2 150 rfl) rfl
theorem q391 : (Jvm.Cond.code ({ cls := "TextDesk", name := "alike", desc := "()Z" } : Jvm.MethodName) prog_4_method_11_code (1 : Nat) (Option.some Jvm.ClassFile.FieldType.boolean)) ∈ lw_all := lw_g (lw_at lw_m2 151 rfl) rfl
theorem q392 : (Jvm.Cond.methodLink "TextDesk" (67 : Nat) ({ cls := "Ascii", name := "equalsIgnoreCase", desc := "(Ljava/lang/CharSequence;Ljava/lang/CharSequence;)Z" } : Jvm.MethodName)) ∈ lw_all := lw_g (lw_at lw_m2 152 rfl) rfl
theorem q393 : (Jvm.Cond.static ({ cls := "Ascii", name := "equalsIgnoreCase", desc := "(Ljava/lang/CharSequence;Ljava/lang/CharSequence;)Z" } : Jvm.MethodName)) ∈ lw_all := lw_g (lw_at lw_m2 153 rfl) rfl
theorem q394 : (Jvm.Cond.code ({ cls := "Ascii", name := "equalsIgnoreCase", desc := "(Ljava/lang/CharSequence;Ljava/lang/CharSequence;)Z" } : Jvm.MethodName) prog_1_method_5_code (7 : Nat) (Option.some Jvm.ClassFile.FieldType.boolean)) ∈ lw_all := lw_g (lw_at lw_m2 154 rfl) rfl
theorem q395 : (Jvm.Cond.interfaceEntry "Ascii" (28 : Nat)) ∈ lw_tbl := lw_at lw_m2 155 rfl
theorem q396 : (Jvm.Cond.methodLink "Ascii" (28 : Nat) ({ cls := "java/lang/CharSequence", name := "length", desc := "()I" } : Jvm.MethodName)) ∈ lw_all := lw_g (lw_at lw_m2 156 rfl) rfl
theorem q397 : (Jvm.Cond.interfaceMethod "java/lang/CharSequence" "java/lang/CharSequence" "length" "()I") ∈ lw_tbl := lw_at lw_m2 157 rfl
theorem q398 : (Jvm.Cond.declares ({ cls := "java/lang/CharSequence", name := "length", desc := "()I" } : Jvm.MethodName)) ∈ lw_tbl := lw_at lw_m2 158 rfl
theorem q399 : (Jvm.Cond.castable "java/lang/String" "java/lang/CharSequence") ∈ lw_tbl := lw_at lw_m2 159 rfl
theorem q400 : (Jvm.Cond.selects "java/lang/String" ({ cls := "java/lang/CharSequence", name := "length", desc := "()I" } : Jvm.MethodName) ({ cls := "java/lang/String", name := "length", desc := "()I" } : Jvm.MethodName)) ∈ lw_all := lw_g (lw_at lw_m2 160 rfl) rfl
theorem q401 : (Jvm.Cond.unhidden "java/lang/String" "length" "()I") ∈ lw_tbl := lw_at lw_m2 161 rfl
theorem q402 : (Jvm.Cond.publicMethod ({ cls := "java/lang/String", name := "length", desc := "()I" } : Jvm.MethodName)) ∈ lw_tbl := lw_at lw_m2 162 rfl
theorem q403 : (Jvm.Cond.castable "java/lang/StringBuilder" "java/lang/CharSequence") ∈ lw_tbl := lw_at lw_m2 163 rfl
theorem q404 : (Jvm.Cond.selects "java/lang/StringBuilder" ({ cls := "java/lang/CharSequence", name := "length", desc := "()I" } : Jvm.MethodName) ({ cls := "java/lang/StringBuilder", name := "length", desc := "()I" } : Jvm.MethodName)) ∈ lw_all := lw_g (lw_at lw_m2 164 rfl) rfl
theorem q405 : (Jvm.Cond.unhidden "java/lang/StringBuilder" "length" "()I") ∈ lw_tbl := lw_at lw_m2 165 rfl
theorem q406 : (Jvm.Cond.publicMethod ({ cls := "java/lang/StringBuilder", name := "length", desc := "()I" } : Jvm.MethodName)) ∈ lw_tbl := lw_at lw_m2 166 rfl
theorem q407 : (Jvm.Cond.interfaceEntry "Ascii" (31 : Nat)) ∈ lw_tbl := lw_at lw_m2 167 rfl
theorem q408 : (Jvm.Cond.methodLink "Ascii" (31 : Nat) ({ cls := "java/lang/CharSequence", name := "charAt", desc := "(I)C" } : Jvm.MethodName)) ∈ lw_all := lw_g (lw_at lw_m2 168 rfl) rfl
theorem q409 : (Jvm.Cond.interfaceMethod "java/lang/CharSequence" "java/lang/CharSequence" "charAt" "(I)C") ∈ lw_tbl := lw_at lw_m2 169 rfl
theorem q410 : (Jvm.Cond.declares ({ cls := "java/lang/CharSequence", name := "charAt", desc := "(I)C" } : Jvm.MethodName)) ∈ lw_tbl := lw_at lw_m2 170 rfl
theorem q411 : (Jvm.Cond.selects "java/lang/String" ({ cls := "java/lang/CharSequence", name := "charAt", desc := "(I)C" } : Jvm.MethodName) ({ cls := "java/lang/String", name := "charAt", desc := "(I)C" } : Jvm.MethodName)) ∈ lw_all := lw_g (lw_at lw_m2 171 rfl) rfl
theorem q412 : (Jvm.Cond.unhidden "java/lang/String" "charAt" "(I)C") ∈ lw_tbl := lw_at lw_m2 172 rfl
theorem q413 : (Jvm.Cond.publicMethod ({ cls := "java/lang/String", name := "charAt", desc := "(I)C" } : Jvm.MethodName)) ∈ lw_tbl := lw_at lw_m2 173 rfl
theorem q414 : (Jvm.Cond.selects "java/lang/StringBuilder" ({ cls := "java/lang/CharSequence", name := "charAt", desc := "(I)C" } : Jvm.MethodName) ({ cls := "java/lang/StringBuilder", name := "charAt", desc := "(I)C" } : Jvm.MethodName)) ∈ lw_all := lw_g (lw_at lw_m2 174 rfl) rfl
theorem q415 : (Jvm.Cond.unhidden "java/lang/StringBuilder" "charAt" "(I)C") ∈ lw_tbl := lw_at lw_m2 175 rfl
theorem q416 : (Jvm.Cond.instanceMethod ({ cls := "java/lang/StringBuilder", name := "charAt", desc := "(I)C" } : Jvm.MethodName)) ∈ lw_all := lw_g (lw_at lw_m2 176 rfl) rfl
theorem q417 : (Jvm.Cond.publicMethod ({ cls := "java/lang/StringBuilder", name := "charAt", desc := "(I)C" } : Jvm.MethodName)) ∈ lw_tbl := lw_at lw_m2 177 rfl
theorem q418 : (Jvm.Cond.code ({ cls := "java/lang/StringBuilder", name := "charAt", desc := "(I)C" } : Jvm.MethodName) prog_12_method_88_code (2 : Nat) (Option.some Jvm.ClassFile.FieldType.char)) ∈ lw_all := lw_g (lw_at lw_m2 178 rfl) rfl
theorem q419 : (Jvm.Cond.methodLink "java/lang/StringBuilder" (329 : Nat) ({ cls := "java/lang/AbstractStringBuilder", name := "charAt", desc := "(I)C" } : Jvm.MethodName)) ∈ lw_all := lw_g (lw_at lw_m2 179 rfl) rfl
theorem q420 : (Jvm.Cond.instanceMethod ({ cls := "java/lang/AbstractStringBuilder", name := "charAt", desc := "(I)C" } : Jvm.MethodName)) ∈ lw_all := lw_g (lw_at lw_m2 180 rfl) rfl
theorem q421 : (Jvm.Cond.code ({ cls := "java/lang/AbstractStringBuilder", name := "charAt", desc := "(I)C" } : Jvm.MethodName) prog_6_method_14_code (5 : Nat) (Option.some Jvm.ClassFile.FieldType.char)) ∈ lw_all := lw_g (lw_at lw_m2 181 rfl) rfl
theorem q422 : (Jvm.Cond.methodLink "java/lang/AbstractStringBuilder" (138 : Nat) ({ cls := "java/lang/Math", name := "min", desc := "(II)I" } : Jvm.MethodName)) ∈ lw_all := lw_g (lw_at lw_m2 182 rfl) rfl
theorem q423 : (Jvm.Cond.methodLink "java/lang/AbstractStringBuilder" (144 : Nat) ({ cls := "java/lang/String", name := "checkIndex", desc := "(II)V" } : Jvm.MethodName)) ∈ lw_all := lw_g (lw_at lw_m2 183 rfl) rfl
theorem q424 : (Jvm.Cond.methodLink "java/lang/AbstractStringBuilder" (148 : Nat) ({ cls := "java/lang/StringUTF16", name := "getChar", desc := "([BI)C" } : Jvm.MethodName)) ∈ lw_all := lw_g (lw_at lw_m2 184 rfl) rfl
theorem q425 : (Jvm.Cond.methodLink "Ascii" (32 : Nat) ({ cls := "Ascii", name := "getAlphaIndex", desc := "(C)I" } : Jvm.MethodName)) ∈ lw_all := lw_g (lw_at lw_m2 185 rfl) rfl
theorem q426 : (Jvm.Cond.static ({ cls := "Ascii", name := "getAlphaIndex", desc := "(C)I" } : Jvm.MethodName)) ∈ lw_all := lw_g (lw_at lw_m2 186 rfl) rfl
theorem q427 : (Jvm.Cond.code ({ cls := "Ascii", name := "getAlphaIndex", desc := "(C)I" } : Jvm.MethodName) prog_1_method_6_code (1 : Nat) (Option.some Jvm.ClassFile.FieldType.int)) ∈ lw_all := lw_g (lw_at lw_m2 187 rfl) rfl
theorem q428 : (Jvm.Cond.methodLink "TextDeskLaw" (41 : Nat) ({ cls := "TextDeskLaw", name := "cell", desc := "([II)I" } : Jvm.MethodName)) ∈ lw_all := lw_g (lw_at lw_m2 188 rfl) rfl
theorem q429 : (Jvm.Cond.static ({ cls := "TextDeskLaw", name := "cell", desc := "([II)I" } : Jvm.MethodName)) ∈ lw_all := lw_g (lw_at lw_m2 189 rfl) rfl
theorem q430 : (Jvm.Cond.code ({ cls := "TextDeskLaw", name := "cell", desc := "([II)I" } : Jvm.MethodName) method_2_code (2 : Nat) (Option.some Jvm.ClassFile.FieldType.int)) ∈ lw_all := lw_g (lw_at lw_m2 190 rfl) rfl
theorem q431 : (Jvm.Cond.methodLink "TextDeskLaw" (10 : Nat) ({ cls := "TextDeskLaw", name := "bare", desc := "(I)I" } : Jvm.MethodName)) ∈ lw_all := lw_g (lw_at lw_m2 191 rfl) rfl
theorem q432 : (Jvm.Cond.static ({ cls := "TextDeskLaw", name := "bare", desc := "(I)I" } : Jvm.MethodName)) ∈ lw_all := lw_g (lw_at lw_m2 192 rfl) rfl
theorem q433 : (Jvm.Cond.code ({ cls := "TextDeskLaw", name := "bare", desc := "(I)I" } : Jvm.MethodName) method_3_code (1 : Nat) (Option.some Jvm.ClassFile.FieldType.int)) ∈ lw_all := lw_g (lw_at lw_m2 193 rfl) rfl
theorem q434 : (Jvm.Cond.constant "TextDeskLaw" (9 : Nat) (2147483647 : Int32)) ∈ lw_all := lw_g (lw_at lw_m2 194 rfl) rfl
theorem q435 : (Jvm.Cond.methodLink "TextDeskLaw" (57 : Nat) ({ cls := "TextDeskLaw", name := "sign", desc := "(I)I" } : Jvm.MethodName)) ∈ lw_all := lw_g (lw_at lw_m2 195 rfl) rfl
theorem q436 : (Jvm.Cond.static ({ cls := "TextDeskLaw", name := "sign", desc := "(I)I" } : Jvm.MethodName)) ∈ lw_all := lw_g (lw_at lw_m2 196 rfl) rfl
theorem q437 : (Jvm.Cond.code ({ cls := "TextDeskLaw", name := "sign", desc := "(I)I" } : Jvm.MethodName) method_4_code (1 : Nat) (Option.some Jvm.ClassFile.FieldType.int)) ∈ lw_all := lw_g (lw_at lw_m2 197 rfl) rfl
theorem q438 : (Jvm.Cond.methodLink "TextDeskLaw" (79 : Nat) ({ cls := "TextDeskLaw", name := "more", desc := "([II)[I" } : Jvm.MethodName)) ∈ lw_all := lw_g (lw_at lw_m2 198 rfl) rfl
theorem q439 : (Jvm.Cond.static ({ cls := "TextDeskLaw", name := "more", desc := "([II)[I" } : Jvm.MethodName)) ∈ lw_all := lw_g (lw_at lw_m2 199 rfl) rfl
theorem q440 : (Jvm.Cond.code ({ cls := "TextDeskLaw", name := "more", desc := "([II)[I" } : Jvm.MethodName) method_5_code (4 : Nat) (Option.some (Jvm.ClassFile.FieldType.array Jvm.ClassFile.FieldType.int))) ∈ lw_all := lw_g (lw_at lw_m2 200 rfl) rfl
theorem q441 : (Jvm.Cond.arrayClass Jvm.ClassFile.FieldType.int) ∈ lw_all := lw_g (lw_at lw_m2 201 rfl) rfl
theorem q442 : (Jvm.Cond.methodLink "TextDeskLaw" (60 : Nat) ({ cls := "TextDeskLaw", name := "padded", desc := "([IIIZ)[I" } : Jvm.MethodName)) ∈ lw_all := lw_g (lw_at lw_m2 202 rfl) rfl
theorem q443 : (Jvm.Cond.static ({ cls := "TextDeskLaw", name := "padded", desc := "([IIIZ)[I" } : Jvm.MethodName)) ∈ lw_all := lw_g (lw_at lw_m2 203 rfl) rfl
theorem q444 : (Jvm.Cond.code ({ cls := "TextDeskLaw", name := "padded", desc := "([IIIZ)[I" } : Jvm.MethodName) method_6_code (7 : Nat) (Option.some (Jvm.ClassFile.FieldType.array Jvm.ClassFile.FieldType.int))) ∈ lw_all := lw_g (lw_at lw_m2 204 rfl) rfl
theorem q445 : (Jvm.Cond.methodLink "TextDeskLaw" (69 : Nat) ({ cls := "TextDeskLaw", name := "cased", desc := "([IZ)[I" } : Jvm.MethodName)) ∈ lw_all := lw_g (lw_at lw_m2 205 rfl) rfl
theorem q446 : (Jvm.Cond.static ({ cls := "TextDeskLaw", name := "cased", desc := "([IZ)[I" } : Jvm.MethodName)) ∈ lw_all := lw_g (lw_at lw_m2 206 rfl) rfl
theorem q447 : (Jvm.Cond.code ({ cls := "TextDeskLaw", name := "cased", desc := "([IZ)[I" } : Jvm.MethodName) method_9_code (4 : Nat) (Option.some (Jvm.ClassFile.FieldType.array Jvm.ClassFile.FieldType.int))) ∈ lw_all := lw_g (lw_at lw_m2 207 rfl) rfl
theorem q448 : (Jvm.Cond.methodLink "TextDeskLaw" (14 : Nat) ({ cls := "TextDeskLaw", name := "upper", desc := "(I)I" } : Jvm.MethodName)) ∈ lw_all := lw_g (lw_at lw_m2 208 rfl) rfl
theorem q449 : (Jvm.Cond.static ({ cls := "TextDeskLaw", name := "upper", desc := "(I)I" } : Jvm.MethodName)) ∈ lw_all := lw_g (lw_at lw_m2 209 rfl) rfl
theorem q450 : (Jvm.Cond.code ({ cls := "TextDeskLaw", name := "upper", desc := "(I)I" } : Jvm.MethodName) method_8_code (1 : Nat) (Option.some Jvm.ClassFile.FieldType.int)) ∈ lw_all := lw_g (lw_at lw_m2 210 rfl) rfl
theorem q451 : (Jvm.Cond.methodLink "TextDeskLaw" (17 : Nat) ({ cls := "TextDeskLaw", name := "lower", desc := "(I)I" } : Jvm.MethodName)) ∈ lw_all := lw_g (lw_at lw_m2 211 rfl) rfl
theorem q452 : (Jvm.Cond.static ({ cls := "TextDeskLaw", name := "lower", desc := "(I)I" } : Jvm.MethodName)) ∈ lw_all := lw_g (lw_at lw_m2 212 rfl) rfl
theorem q453 : (Jvm.Cond.code ({ cls := "TextDeskLaw", name := "lower", desc := "(I)I" } : Jvm.MethodName) method_7_code (1 : Nat) (Option.some Jvm.ClassFile.FieldType.int)) ∈ lw_all := lw_g (lw_at lw_m2 213 rfl) rfl
theorem q454 : (Jvm.Cond.methodLink "TextDeskLaw" (45 : Nat) ({ cls := "TextDeskLaw", name := "told", desc := "(LTextDesk;[I[II)Z" } : Jvm.MethodName)) ∈ lw_all := lw_g (lw_at lw_m2 214 rfl) rfl
theorem q455 : (Jvm.Cond.static ({ cls := "TextDeskLaw", name := "told", desc := "(LTextDesk;[I[II)Z" } : Jvm.MethodName)) ∈ lw_all := lw_g (lw_at lw_m2 215 rfl) rfl
theorem q456 : (Jvm.Cond.code ({ cls := "TextDeskLaw", name := "told", desc := "(LTextDesk;[I[II)Z" } : Jvm.MethodName) method_10_code (9 : Nat) (Option.some Jvm.ClassFile.FieldType.boolean)) ∈ lw_all := lw_g (lw_at lw_m2 216 rfl) rfl
theorem q457 : (Jvm.Cond.methodLink "TextDeskLaw" (20 : Nat) ({ cls := "TextDesk", name := "prefix", desc := "()I" } : Jvm.MethodName)) ∈ lw_all := lw_g (lw_at lw_m2 217 rfl) rfl
theorem q458 : (Jvm.Cond.instanceMethod ({ cls := "TextDesk", name := "prefix", desc := "()I" } : Jvm.MethodName)) ∈ lw_all := lw_g (lw_at lw_m2 218 rfl) rfl
theorem q459 : (Jvm.Cond.selects "TextDesk" ({ cls := "TextDesk", name := "prefix", desc := "()I" } : Jvm.MethodName) ({ cls := "TextDesk", name := "prefix", desc := "()I" } : Jvm.MethodName)) ∈ lw_all := lw_g (lw_at lw_m2 219 rfl) rfl
theorem q460 : (Jvm.Cond.code ({ cls := "TextDesk", name := "prefix", desc := "()I" } : Jvm.MethodName) prog_4_method_5_code (1 : Nat) (Option.some Jvm.ClassFile.FieldType.int)) ∈ lw_all := lw_g (lw_at lw_m2 220 rfl) rfl
theorem q461 : (Jvm.Cond.methodLink "TextDesk" (42 : Nat) ({ cls := "Strings", name := "commonPrefix", desc := "(Ljava/lang/CharSequence;Ljava/lang/CharSequence;)Ljava/lang/String;" } : Jvm.MethodName)) ∈ lw_all := lw_g (lw_at lw_m2 221 rfl) rfl
theorem q462 : (Jvm.Cond.static ({ cls := "Strings", name := "commonPrefix", desc := "(Ljava/lang/CharSequence;Ljava/lang/CharSequence;)Ljava/lang/String;" } : Jvm.MethodName)) ∈ lw_all := lw_g (lw_at lw_m2 222 rfl) rfl
theorem q463 : (Jvm.Cond.code ({ cls := "Strings", name := "commonPrefix", desc := "(Ljava/lang/CharSequence;Ljava/lang/CharSequence;)Ljava/lang/String;" } : Jvm.MethodName) prog_3_method_3_code (4 : Nat) (Option.some (Jvm.ClassFile.FieldType.object "java/lang/String"))) ∈ lw_all := lw_g (lw_at lw_m2 223 rfl) rfl
theorem q464 : (Jvm.Cond.interfaceEntry "Strings" (30 : Nat)) ∈ lw_tbl := lw_at lw_m2 224 rfl
theorem q465 : (Jvm.Cond.methodLink "Strings" (30 : Nat) ({ cls := "java/lang/CharSequence", name := "length", desc := "()I" } : Jvm.MethodName)) ∈ lw_all := lw_g (lw_at lw_m2 225 rfl) rfl
theorem q466 : (Jvm.Cond.methodLink "Strings" (33 : Nat) ({ cls := "java/lang/Math", name := "min", desc := "(II)I" } : Jvm.MethodName)) ∈ lw_all := lw_g (lw_at lw_m2 226 rfl) rfl
theorem q467 : (Jvm.Cond.interfaceEntry "Strings" (39 : Nat)) ∈ lw_tbl := lw_at lw_m2 227 rfl
theorem q468 : (Jvm.Cond.methodLink "Strings" (39 : Nat) ({ cls := "java/lang/CharSequence", name := "charAt", desc := "(I)C" } : Jvm.MethodName)) ∈ lw_all := lw_g (lw_at lw_m2 228 rfl) rfl
theorem q469 : (Jvm.Cond.methodLink "Strings" (43 : Nat) ({ cls := "Strings", name := "validSurrogatePairAt", desc := "(Ljava/lang/CharSequence;I)Z" } : Jvm.MethodName)) ∈ lw_all := lw_g (lw_at lw_m2 229 rfl) rfl
theorem q470 : (Jvm.Cond.static ({ cls := "Strings", name := "validSurrogatePairAt", desc := "(Ljava/lang/CharSequence;I)Z" } : Jvm.MethodName)) ∈ lw_all := lw_g (lw_at lw_m2 230 rfl) rfl
theorem q471 : (Jvm.Cond.code ({ cls := "Strings", name := "validSurrogatePairAt", desc := "(Ljava/lang/CharSequence;I)Z" } : Jvm.MethodName) prog_3_method_5_code (2 : Nat) (Option.some Jvm.ClassFile.FieldType.boolean)) ∈ lw_all := lw_g (lw_at lw_m2 231 rfl) rfl
theorem q472 : (Jvm.Cond.methodLink "Strings" (54 : Nat) ({ cls := "java/lang/Character", name := "isHighSurrogate", desc := "(C)Z" } : Jvm.MethodName)) ∈ lw_all := lw_g (lw_at lw_m2 232 rfl) rfl
theorem q473 : (Jvm.Cond.static ({ cls := "java/lang/Character", name := "isHighSurrogate", desc := "(C)Z" } : Jvm.MethodName)) ∈ lw_all := lw_g (lw_at lw_m2 233 rfl) rfl
theorem q474 : (Jvm.Cond.code ({ cls := "java/lang/Character", name := "isHighSurrogate", desc := "(C)Z" } : Jvm.MethodName) prog_8_method_14_code (1 : Nat) (Option.some Jvm.ClassFile.FieldType.boolean)) ∈ lw_all := lw_g (lw_at lw_m2 234 rfl) rfl
theorem q475 : (Jvm.Cond.constant "java/lang/Character" (75 : Nat) (55296 : Int32)) ∈ lw_all := lw_g (lw_at lw_m2 235 rfl) rfl
theorem q476 : (Jvm.Cond.constant "java/lang/Character" (76 : Nat) (56320 : Int32)) ∈ lw_all := lw_g (lw_at lw_m2 236 rfl) rfl
theorem q477 : (Jvm.Cond.methodLink "Strings" (60 : Nat) ({ cls := "java/lang/Character", name := "isLowSurrogate", desc := "(C)Z" } : Jvm.MethodName)) ∈ lw_all := lw_g (lw_at lw_m2 237 rfl) rfl
theorem q478 : (Jvm.Cond.static ({ cls := "java/lang/Character", name := "isLowSurrogate", desc := "(C)Z" } : Jvm.MethodName)) ∈ lw_all := lw_g (lw_at lw_m2 238 rfl) rfl
theorem q479 : (Jvm.Cond.code ({ cls := "java/lang/Character", name := "isLowSurrogate", desc := "(C)Z" } : Jvm.MethodName) prog_8_method_15_code (1 : Nat) (Option.some Jvm.ClassFile.FieldType.boolean)) ∈ lw_all := lw_g (lw_at lw_m2 239 rfl) rfl
theorem q480 : (Jvm.Cond.constant "java/lang/Character" (77 : Nat) (57344 : Int32)) ∈ lw_all := lw_g (lw_at lw_m3 0 rfl) rfl
theorem q481 : (Jvm.Cond.interfaceEntry "Strings" (49 : Nat)) ∈ lw_tbl := lw_at lw_m3 1 rfl
theorem q482 : (Jvm.Cond.methodLink "Strings" (49 : Nat) ({ cls := "java/lang/CharSequence", name := "subSequence", desc := "(II)Ljava/lang/CharSequence;" } : Jvm.MethodName)) ∈ lw_all := lw_g (lw_at lw_m3 2 rfl) rfl
theorem q483 : (Jvm.Cond.interfaceMethod "java/lang/CharSequence" "java/lang/CharSequence" "subSequence" "(II)Ljava/lang/CharSequence;") ∈ lw_tbl := lw_at lw_m3 3 rfl
theorem q484 : (Jvm.Cond.declares ({ cls := "java/lang/CharSequence", name := "subSequence", desc := "(II)Ljava/lang/CharSequence;" } : Jvm.MethodName)) ∈ lw_tbl := lw_at lw_m3 4 rfl
theorem q485 : (Jvm.Cond.selects "java/lang/String" ({ cls := "java/lang/CharSequence", name := "subSequence", desc := "(II)Ljava/lang/CharSequence;" } : Jvm.MethodName) ({ cls := "java/lang/String", name := "subSequence", desc := "(II)Ljava/lang/CharSequence;" } : Jvm.MethodName)) ∈ lw_all := lw_g (lw_at lw_m3 5 rfl) rfl
theorem q486 : (Jvm.Cond.unhidden "java/lang/String" "subSequence" "(II)Ljava/lang/CharSequence;") ∈ lw_tbl := lw_at lw_m3 6 rfl
theorem q487 : (Jvm.Cond.instanceMethod ({ cls := "java/lang/String", name := "subSequence", desc := "(II)Ljava/lang/CharSequence;" } : Jvm.MethodName)) ∈ lw_all := lw_g (lw_at lw_m3 7 rfl) rfl
theorem q488 : (Jvm.Cond.publicMethod ({ cls := "java/lang/String", name := "subSequence", desc := "(II)Ljava/lang/CharSequence;" } : Jvm.MethodName)) ∈ lw_tbl := lw_at lw_m3 8 rfl
theorem q489 : (Jvm.Cond.code ({ cls := "java/lang/String", name := "subSequence", desc := "(II)Ljava/lang/CharSequence;" } : Jvm.MethodName) prog_11_method_93_code (3 : Nat) (Option.some (Jvm.ClassFile.FieldType.object "java/lang/CharSequence"))) ∈ lw_all := lw_g (lw_at lw_m3 9 rfl) rfl
theorem q490 : (Jvm.Cond.methodLink "java/lang/String" (681 : Nat) ({ cls := "java/lang/String", name := "substring", desc := "(II)Ljava/lang/String;" } : Jvm.MethodName)) ∈ lw_all := lw_g (lw_at lw_m3 10 rfl) rfl
theorem q491 : (Jvm.Cond.instanceMethod ({ cls := "java/lang/String", name := "substring", desc := "(II)Ljava/lang/String;" } : Jvm.MethodName)) ∈ lw_all := lw_g (lw_at lw_m3 11 rfl) rfl
theorem q492 : (Jvm.Cond.selects "java/lang/String" ({ cls := "java/lang/String", name := "substring", desc := "(II)Ljava/lang/String;" } : Jvm.MethodName) ({ cls := "java/lang/String", name := "substring", desc := "(II)Ljava/lang/String;" } : Jvm.MethodName)) ∈ lw_all := lw_g (lw_at lw_m3 12 rfl) rfl
theorem q493 : (Jvm.Cond.code ({ cls := "java/lang/String", name := "substring", desc := "(II)Ljava/lang/String;" } : Jvm.MethodName) prog_11_method_92_code (5 : Nat) (Option.some (Jvm.ClassFile.FieldType.object "java/lang/String"))) ∈ lw_all := lw_g (lw_at lw_m3 13 rfl) rfl
theorem q494 : (Jvm.Cond.methodLink "java/lang/String" (505 : Nat) ({ cls := "java/lang/String", name := "length", desc := "()I" } : Jvm.MethodName)) ∈ lw_all := lw_g (lw_at lw_m3 14 rfl) rfl
theorem q495 : (Jvm.Cond.methodLink "java/lang/String" (521 : Nat) ({ cls := "java/lang/String", name := "checkBoundsBeginEnd", desc := "(III)V" } : Jvm.MethodName)) ∈ lw_all := lw_g (lw_at lw_m3 15 rfl) rfl
theorem q496 : (Jvm.Cond.methodLink "java/lang/String" (685 : Nat) ({ cls := "java/lang/StringLatin1", name := "newString", desc := "([BII)Ljava/lang/String;" } : Jvm.MethodName)) ∈ lw_all := lw_g (lw_at lw_m3 16 rfl) rfl
theorem q497 : (Jvm.Cond.static ({ cls := "java/lang/StringLatin1", name := "newString", desc := "([BII)Ljava/lang/String;" } : Jvm.MethodName)) ∈ lw_all := lw_g (lw_at lw_m3 17 rfl) rfl
theorem q498 : (Jvm.Cond.code ({ cls := "java/lang/StringLatin1", name := "newString", desc := "([BII)Ljava/lang/String;" } : Jvm.MethodName) prog_13_method_47_code (3 : Nat) (Option.some (Jvm.ClassFile.FieldType.object "java/lang/String"))) ∈ lw_all := lw_g (lw_at lw_m3 18 rfl) rfl
theorem q499 : (Jvm.Cond.stringRef "java/lang/StringLatin1" (151 : Nat) "") ∈ lw_tbl := lw_at lw_m3 19 rfl
theorem q500 : (Jvm.Cond.classLink "java/lang/StringLatin1" (1 : Nat) "java/lang/String") ∈ lw_all := lw_g (lw_at lw_m3 20 rfl) rfl
theorem q501 : (Jvm.Cond.methodLink "java/lang/StringLatin1" (232 : Nat) ({ cls := "java/util/Arrays", name := "copyOfRange", desc := "([BII)[B" } : Jvm.MethodName)) ∈ lw_all := lw_g (lw_at lw_m3 21 rfl) rfl
theorem q502 : (Jvm.Cond.methodLink "java/lang/StringLatin1" (112 : Nat) ({ cls := "java/lang/String", name := "<init>", desc := "([BB)V" } : Jvm.MethodName)) ∈ lw_all := lw_g (lw_at lw_m3 22 rfl) rfl
theorem q503 : (Jvm.Cond.instanceMethod ({ cls := "java/lang/String", name := "<init>", desc := "([BB)V" } : Jvm.MethodName)) ∈ lw_all := lw_g (lw_at lw_m3 23 rfl) rfl
theorem q504 : (Jvm.Cond.code ({ cls := "java/lang/String", name := "<init>", desc := "([BB)V" } : Jvm.MethodName) prog_11_method_151_code (3 : Nat) (Option.none : Option Jvm.ClassFile.FieldType)) ∈ lw_all := lw_g (lw_at lw_m3 24 rfl) rfl
theorem q505 : (Jvm.Cond.methodLink "java/lang/String" (689 : Nat) ({ cls := "java/lang/StringUTF16", name := "newString", desc := "([BII)Ljava/lang/String;" } : Jvm.MethodName)) ∈ lw_all := lw_g (lw_at lw_m3 25 rfl) rfl
theorem q506 : (Jvm.Cond.static ({ cls := "java/lang/StringUTF16", name := "newString", desc := "([BII)Ljava/lang/String;" } : Jvm.MethodName)) ∈ lw_all := lw_g (lw_at lw_m3 26 rfl) rfl
theorem q507 : (Jvm.Cond.code ({ cls := "java/lang/StringUTF16", name := "newString", desc := "([BII)Ljava/lang/String;" } : Jvm.MethodName) prog_14_method_69_code (5 : Nat) (Option.some (Jvm.ClassFile.FieldType.object "java/lang/String"))) ∈ lw_all := lw_g (lw_at lw_m3 27 rfl) rfl
theorem q508 : (Jvm.Cond.stringRef "java/lang/StringUTF16" (295 : Nat) "") ∈ lw_tbl := lw_at lw_m3 28 rfl
theorem q509 : (Jvm.Cond.fieldLink "java/lang/StringUTF16" (251 : Nat) "java/lang/String" "COMPACT_STRINGS" "Z") ∈ lw_all := lw_g (lw_at lw_m3 29 rfl) rfl
theorem q510 : (Jvm.Cond.methodLink "java/lang/StringUTF16" (257 : Nat) ({ cls := "java/lang/StringUTF16", name := "compress", desc := "([BII)[B" } : Jvm.MethodName)) ∈ lw_all := lw_g (lw_at lw_m3 30 rfl) rfl
theorem q511 : (Jvm.Cond.methodLink "java/lang/StringUTF16" (259 : Nat) ({ cls := "java/lang/StringUTF16", name := "coderFromArrayLen", desc := "([BI)B" } : Jvm.MethodName)) ∈ lw_all := lw_g (lw_at lw_m3 31 rfl) rfl
theorem q512 : (Jvm.Cond.classLink "java/lang/StringUTF16" (3 : Nat) "java/lang/String") ∈ lw_all := lw_g (lw_at lw_m3 32 rfl) rfl
theorem q513 : (Jvm.Cond.methodLink "java/lang/StringUTF16" (263 : Nat) ({ cls := "java/lang/String", name := "<init>", desc := "([BB)V" } : Jvm.MethodName)) ∈ lw_all := lw_g (lw_at lw_m3 33 rfl) rfl
theorem q514 : (Jvm.Cond.selects "java/lang/StringBuilder" ({ cls := "java/lang/CharSequence", name := "subSequence", desc := "(II)Ljava/lang/CharSequence;" } : Jvm.MethodName) ({ cls := "java/lang/StringBuilder", name := "subSequence", desc := "(II)Ljava/lang/CharSequence;" } : Jvm.MethodName)) ∈ lw_all := lw_g (lw_at lw_m3 34 rfl) rfl
theorem q515 : (Jvm.Cond.unhidden "java/lang/StringBuilder" "subSequence" "(II)Ljava/lang/CharSequence;") ∈ lw_tbl := lw_at lw_m3 35 rfl
theorem q516 : (Jvm.Cond.instanceMethod ({ cls := "java/lang/StringBuilder", name := "subSequence", desc := "(II)Ljava/lang/CharSequence;" } : Jvm.MethodName)) ∈ lw_all := lw_g (lw_at lw_m3 36 rfl) rfl
theorem q517 : (Jvm.Cond.publicMethod ({ cls := "java/lang/StringBuilder", name := "subSequence", desc := "(II)Ljava/lang/CharSequence;" } : Jvm.MethodName)) ∈ lw_tbl := lw_at lw_m3 37 rfl
theorem q518 : (Jvm.Cond.code ({ cls := "java/lang/StringBuilder", name := "subSequence", desc := "(II)Ljava/lang/CharSequence;" } : Jvm.MethodName) prog_12_method_63_code (3 : Nat) (Option.some (Jvm.ClassFile.FieldType.object "java/lang/CharSequence"))) ∈ lw_all := lw_g (lw_at lw_m3 38 rfl) rfl
theorem q519 : (Jvm.Cond.methodLink "java/lang/StringBuilder" (256 : Nat) ({ cls := "java/lang/AbstractStringBuilder", name := "subSequence", desc := "(II)Ljava/lang/CharSequence;" } : Jvm.MethodName)) ∈ lw_all := lw_g (lw_at lw_m3 39 rfl) rfl
theorem q520 : (Jvm.Cond.instanceMethod ({ cls := "java/lang/AbstractStringBuilder", name := "subSequence", desc := "(II)Ljava/lang/CharSequence;" } : Jvm.MethodName)) ∈ lw_all := lw_g (lw_at lw_m3 40 rfl) rfl
theorem q521 : (Jvm.Cond.code ({ cls := "java/lang/AbstractStringBuilder", name := "subSequence", desc := "(II)Ljava/lang/CharSequence;" } : Jvm.MethodName) prog_6_method_41_code (3 : Nat) (Option.some (Jvm.ClassFile.FieldType.object "java/lang/CharSequence"))) ∈ lw_all := lw_g (lw_at lw_m3 41 rfl) rfl
theorem q522 : (Jvm.Cond.methodLink "java/lang/AbstractStringBuilder" (300 : Nat) ({ cls := "java/lang/AbstractStringBuilder", name := "substring", desc := "(II)Ljava/lang/String;" } : Jvm.MethodName)) ∈ lw_all := lw_g (lw_at lw_m3 42 rfl) rfl
theorem q523 : (Jvm.Cond.instanceMethod ({ cls := "java/lang/AbstractStringBuilder", name := "substring", desc := "(II)Ljava/lang/String;" } : Jvm.MethodName)) ∈ lw_all := lw_g (lw_at lw_m3 43 rfl) rfl
theorem q524 : (Jvm.Cond.sameMethod "java/lang/AbstractStringBuilder" "java/lang/AbstractStringBuilder" "substring" "(II)Ljava/lang/String;") ∈ lw_all := lw_g (lw_at lw_m3 44 rfl) rfl
theorem q525 : (Jvm.Cond.selects "java/lang/StringBuilder" ({ cls := "java/lang/AbstractStringBuilder", name := "substring", desc := "(II)Ljava/lang/String;" } : Jvm.MethodName) ({ cls := "java/lang/StringBuilder", name := "substring", desc := "(II)Ljava/lang/String;" } : Jvm.MethodName)) ∈ lw_all := lw_g (lw_at lw_m3 45 rfl) rfl
theorem q526 : (Jvm.Cond.instanceMethod ({ cls := "java/lang/StringBuilder", name := "substring", desc := "(II)Ljava/lang/String;" } : Jvm.MethodName)) ∈ lw_all := lw_g (lw_at lw_m3 46 rfl) rfl
theorem q527 : (Jvm.Cond.code ({ cls := "java/lang/StringBuilder", name := "substring", desc := "(II)Ljava/lang/String;" } : Jvm.MethodName) prog_12_method_62_code (3 : Nat) (Option.some (Jvm.ClassFile.FieldType.object "java/lang/String"))) ∈ lw_all := lw_g (lw_at lw_m3 47 rfl) rfl
theorem q528 : (Jvm.Cond.methodLink "java/lang/StringBuilder" (252 : Nat) ({ cls := "java/lang/AbstractStringBuilder", name := "substring", desc := "(II)Ljava/lang/String;" } : Jvm.MethodName)) ∈ lw_all := lw_g (lw_at lw_m3 48 rfl) rfl
theorem q529 : (Jvm.Cond.code ({ cls := "java/lang/AbstractStringBuilder", name := "substring", desc := "(II)Ljava/lang/String;" } : Jvm.MethodName) prog_6_method_42_code (3 : Nat) (Option.some (Jvm.ClassFile.FieldType.object "java/lang/String"))) ∈ lw_all := lw_g (lw_at lw_m3 49 rfl) rfl
theorem q530 : (Jvm.Cond.fieldLink "java/lang/AbstractStringBuilder" (179 : Nat) "jdk/internal/util/Preconditions" "SIOOBE_FORMATTER" "Ljava/util/function/BiFunction;") ∈ lw_all := lw_g (lw_at lw_m3 50 rfl) rfl
theorem q531 : (Jvm.Cond.methodLink "java/lang/AbstractStringBuilder" (161 : Nat) ({ cls := "jdk/internal/util/Preconditions", name := "checkFromToIndex", desc := "(IIILjava/util/function/BiFunction;)I" } : Jvm.MethodName)) ∈ lw_all := lw_g (lw_at lw_m3 51 rfl) rfl
theorem q532 : (Jvm.Cond.methodLink "java/lang/AbstractStringBuilder" (304 : Nat) ({ cls := "java/lang/StringLatin1", name := "newString", desc := "([BII)Ljava/lang/String;" } : Jvm.MethodName)) ∈ lw_all := lw_g (lw_at lw_m3 52 rfl) rfl
theorem q533 : (Jvm.Cond.methodLink "java/lang/AbstractStringBuilder" (308 : Nat) ({ cls := "java/lang/StringUTF16", name := "newString", desc := "([BII)Ljava/lang/String;" } : Jvm.MethodName)) ∈ lw_all := lw_g (lw_at lw_m3 53 rfl) rfl
theorem q534 : (Jvm.Cond.interfaceEntry "Strings" (53 : Nat)) ∈ lw_tbl := lw_at lw_m3 54 rfl
theorem q535 : (Jvm.Cond.methodLink "Strings" (53 : Nat) ({ cls := "java/lang/CharSequence", name := "toString", desc := "()Ljava/lang/String;" } : Jvm.MethodName)) ∈ lw_all := lw_g (lw_at lw_m3 55 rfl) rfl
theorem q536 : (Jvm.Cond.interfaceMethod "java/lang/CharSequence" "java/lang/CharSequence" "toString" "()Ljava/lang/String;") ∈ lw_tbl := lw_at lw_m3 56 rfl
theorem q537 : (Jvm.Cond.declares ({ cls := "java/lang/CharSequence", name := "toString", desc := "()Ljava/lang/String;" } : Jvm.MethodName)) ∈ lw_tbl := lw_at lw_m3 57 rfl
theorem q538 : (Jvm.Cond.selects "java/lang/String" ({ cls := "java/lang/CharSequence", name := "toString", desc := "()Ljava/lang/String;" } : Jvm.MethodName) ({ cls := "java/lang/String", name := "toString", desc := "()Ljava/lang/String;" } : Jvm.MethodName)) ∈ lw_all := lw_g (lw_at lw_m3 58 rfl) rfl
theorem q539 : (Jvm.Cond.unhidden "java/lang/String" "toString" "()Ljava/lang/String;") ∈ lw_tbl := lw_at lw_m3 59 rfl
theorem q540 : (Jvm.Cond.instanceMethod ({ cls := "java/lang/String", name := "toString", desc := "()Ljava/lang/String;" } : Jvm.MethodName)) ∈ lw_all := lw_g (lw_at lw_m3 60 rfl) rfl
theorem q541 : (Jvm.Cond.publicMethod ({ cls := "java/lang/String", name := "toString", desc := "()Ljava/lang/String;" } : Jvm.MethodName)) ∈ lw_tbl := lw_at lw_m3 61 rfl
theorem q542 : (Jvm.Cond.code ({ cls := "java/lang/String", name := "toString", desc := "()Ljava/lang/String;" } : Jvm.MethodName) prog_11_method_126_code (1 : Nat) (Option.some (Jvm.ClassFile.FieldType.object "java/lang/String"))) ∈ lw_all := lw_g (lw_at lw_m3 62 rfl) rfl
theorem q543 : (Jvm.Cond.selects "java/lang/StringBuilder" ({ cls := "java/lang/CharSequence", name := "toString", desc := "()Ljava/lang/String;" } : Jvm.MethodName) ({ cls := "java/lang/StringBuilder", name := "toString", desc := "()Ljava/lang/String;" } : Jvm.MethodName)) ∈ lw_all := lw_g (lw_at lw_m3 63 rfl) rfl
theorem q544 : (Jvm.Cond.unhidden "java/lang/StringBuilder" "toString" "()Ljava/lang/String;") ∈ lw_tbl := lw_at lw_m3 64 rfl
theorem q545 : (Jvm.Cond.publicMethod ({ cls := "java/lang/StringBuilder", name := "toString", desc := "()Ljava/lang/String;" } : Jvm.MethodName)) ∈ lw_tbl := lw_at lw_m3 65 rfl
theorem q546 : (Jvm.Cond.methodLink "TextDeskLaw" (26 : Nat) ({ cls := "TextDesk", name := "suffix", desc := "()I" } : Jvm.MethodName)) ∈ lw_all := lw_g (lw_at lw_m3 66 rfl) rfl
theorem q547 : (Jvm.Cond.instanceMethod ({ cls := "TextDesk", name := "suffix", desc := "()I" } : Jvm.MethodName)) ∈ lw_all := lw_g (lw_at lw_m3 67 rfl) rfl
theorem q548 : (Jvm.Cond.selects "TextDesk" ({ cls := "TextDesk", name := "suffix", desc := "()I" } : Jvm.MethodName) ({ cls := "TextDesk", name := "suffix", desc := "()I" } : Jvm.MethodName)) ∈ lw_all := lw_g (lw_at lw_m3 68 rfl) rfl
theorem q549 : (Jvm.Cond.code ({ cls := "TextDesk", name := "suffix", desc := "()I" } : Jvm.MethodName) prog_4_method_6_code (1 : Nat) (Option.some Jvm.ClassFile.FieldType.int)) ∈ lw_all := lw_g (lw_at lw_m3 69 rfl) rfl
theorem q550 : (Jvm.Cond.methodLink "TextDesk" (48 : Nat) ({ cls := "Strings", name := "commonSuffix", desc := "(Ljava/lang/CharSequence;Ljava/lang/CharSequence;)Ljava/lang/String;" } : Jvm.MethodName)) ∈ lw_all := lw_g (lw_at lw_m3 70 rfl) rfl
theorem q551 : (Jvm.Cond.static ({ cls := "Strings", name := "commonSuffix", desc := "(Ljava/lang/CharSequence;Ljava/lang/CharSequence;)Ljava/lang/String;" } : Jvm.MethodName)) ∈ lw_all := lw_g (lw_at lw_m3 71 rfl) rfl
theorem q552 : (Jvm.Cond.code ({ cls := "Strings", name := "commonSuffix", desc := "(Ljava/lang/CharSequence;Ljava/lang/CharSequence;)Ljava/lang/String;" } : Jvm.MethodName) prog_3_method_4_code (4 : Nat) (Option.some (Jvm.ClassFile.FieldType.object "java/lang/String"))) ∈ lw_all := lw_g (lw_at lw_m3 72 rfl) rfl
theorem q553 : (Jvm.Cond.methodLink "TextDeskLaw" (33 : Nat) ({ cls := "TextDesk", name := "length", desc := "(I)I" } : Jvm.MethodName)) ∈ lw_all := lw_g (lw_at lw_m3 73 rfl) rfl
theorem q554 : (Jvm.Cond.instanceMethod ({ cls := "TextDesk", name := "length", desc := "(I)I" } : Jvm.MethodName)) ∈ lw_all := lw_g (lw_at lw_m3 74 rfl) rfl
theorem q555 : (Jvm.Cond.selects "TextDesk" ({ cls := "TextDesk", name := "length", desc := "(I)I" } : Jvm.MethodName) ({ cls := "TextDesk", name := "length", desc := "(I)I" } : Jvm.MethodName)) ∈ lw_all := lw_g (lw_at lw_m3 75 rfl) rfl
theorem q556 : (Jvm.Cond.code ({ cls := "TextDesk", name := "length", desc := "(I)I" } : Jvm.MethodName) prog_4_method_12_code (2 : Nat) (Option.some Jvm.ClassFile.FieldType.int)) ∈ lw_all := lw_g (lw_at lw_m3 76 rfl) rfl
theorem q557 : (Jvm.Cond.methodLink "TextDeskLaw" (36 : Nat) ({ cls := "TextDesk", name := "at", desc := "(II)I" } : Jvm.MethodName)) ∈ lw_all := lw_g (lw_at lw_m3 77 rfl) rfl
theorem q558 : (Jvm.Cond.instanceMethod ({ cls := "TextDesk", name := "at", desc := "(II)I" } : Jvm.MethodName)) ∈ lw_all := lw_g (lw_at lw_m3 78 rfl) rfl
theorem q559 : (Jvm.Cond.selects "TextDesk" ({ cls := "TextDesk", name := "at", desc := "(II)I" } : Jvm.MethodName) ({ cls := "TextDesk", name := "at", desc := "(II)I" } : Jvm.MethodName)) ∈ lw_all := lw_g (lw_at lw_m3 79 rfl) rfl
theorem q560 : (Jvm.Cond.code ({ cls := "TextDesk", name := "at", desc := "(II)I" } : Jvm.MethodName) prog_4_method_13_code (4 : Nat) (Option.some Jvm.ClassFile.FieldType.int)) ∈ lw_all := lw_g (lw_at lw_m3 80 rfl) rfl
theorem q561 : (Jvm.Cond.methodLink "TextDesk" (71 : Nat) ({ cls := "java/lang/String", name := "charAt", desc := "(I)C" } : Jvm.MethodName)) ∈ lw_all := lw_g (lw_at lw_m3 81 rfl) rfl
theorem q562 : (Jvm.Cond.sameMethod "java/lang/AbstractStringBuilder" "java/lang/AbstractStringBuilder" "appendNull" "()Ljava/lang/AbstractStringBuilder;") ∈ lw_all := lw_g (lw_at lw_m3 82 rfl) rfl
theorem q563 : (Jvm.Cond.sameMethod "java/lang/AbstractStringBuilder" "java/lang/AbstractStringBuilder" "ensureCapacityInternal" "(I)V") ∈ lw_all := lw_g (lw_at lw_m3 83 rfl) rfl
theorem q564 : (Jvm.Cond.sameMethod "java/lang/AbstractStringBuilder" "java/lang/AbstractStringBuilder" "newCapacity" "(I)I") ∈ lw_all := lw_g (lw_at lw_m3 84 rfl) rfl
theorem q565 : (Jvm.Cond.sameMethod "java/lang/AbstractStringBuilder" "java/lang/AbstractStringBuilder" "putStringAt" "(ILjava/lang/String;)V") ∈ lw_all := lw_g (lw_at lw_m3 85 rfl) rfl
theorem q566 : (Jvm.Cond.sameMethod "java/lang/AbstractStringBuilder" "java/lang/AbstractStringBuilder" "inflateIfNeededFor" "(Ljava/lang/String;)V") ∈ lw_all := lw_g (lw_at lw_m3 86 rfl) rfl
theorem q567 : (Jvm.Cond.sameMethod "java/lang/AbstractStringBuilder" "java/lang/AbstractStringBuilder" "inflate" "()V") ∈ lw_all := lw_g (lw_at lw_m3 87 rfl) rfl
theorem q568 : (Jvm.Cond.sameMethod "java/lang/AbstractStringBuilder" "java/lang/AbstractStringBuilder" "append" "(C)Ljava/lang/AbstractStringBuilder;") ∈ lw_all := lw_g (lw_at lw_m3 88 rfl) rfl
theorem q569 : (Jvm.Cond.sameMethod "java/lang/AbstractStringBuilder" "java/lang/AbstractStringBuilder" "charAt" "(I)C") ∈ lw_all := lw_g (lw_at lw_m3 89 rfl) rfl
theorem q570 : (Jvm.Cond.sameMethod "java/lang/AbstractStringBuilder" "java/lang/AbstractStringBuilder" "subSequence" "(II)Ljava/lang/CharSequence;") ∈ lw_all := lw_g (lw_at lw_m3 90 rfl) rfl
theorem q571 : (Jvm.Cond.initialized "java/lang/Object") ∈ lw_all := lw_g (lw_at lw_m3 91 rfl) rfl
theorem qp0 : Cond.selects "java/lang/StringBuilder" yJ7_ensureCapacityInternal yJ7_ensureCapacityInternal ∈ lw_all := lw_g (lw_mp _ (List.mem_of_getElem? (i := 0) rfl)) rfl
theorem qp1 : Cond.selects "java/lang/StringBuilder" yJ7_putStringAt yJ7_putStringAt ∈ lw_all := lw_g (lw_mp _ (List.mem_of_getElem? (i := 1) rfl)) rfl
theorem qp2 : Cond.selects "java/lang/StringBuilder" yJ7_inflateIfNeededFor yJ7_inflateIfNeededFor ∈ lw_all := lw_g (lw_mp _ (List.mem_of_getElem? (i := 2) rfl)) rfl
theorem in_J0 : ∀ w ∈ wsJ00, w ∈ lw_all := lw_in wsJ00 [272, 274, 276, 278] (by decide +kernel) (by decide +kernel)
theorem in_J8 : ∀ w ∈ wsJ80, w ∈ lw_all := lw_in wsJ80 [187, 189, 191, 193] (by decide +kernel) (by decide +kernel)
theorem in_X1 : ∀ w ∈ wsX10, w ∈ lw_all := lw_in wsX10 [27, 29] (by decide +kernel) (by decide +kernel)
end
section
/-! own pictures and rows: Strings and arrays that nobody writes, the world that every contract carries, ends, calls -/
set_option maxRecDepth 100000
abbrev vwCl : List vw_C := [(RJ0, TJ0, 4), (RJ8, TJ8, 4), (RX1, TX1, 2)]
/-- class numbers and slots; the classes of byte, char and int arrays; the cell of "" -/
abbrev EvT : Type := va_G × ClassId × ClassId × ClassId × Nat
abbrev eB (E : EvT) : ClassId := E.2.1
abbrev eC (E : EvT) : ClassId := E.2.2.1
abbrev eI (E : EvT) : ClassId := E.2.2.2.1
abbrev eS (E : EvT) : Nat := E.2.2.2.2
abbrev tyL (E : EvT) : List (ClassId × FieldType) := [(eB E, .byte), (eC E, .char), (eI E, .int)]
abbrev No : Nat → Prop := fun _ => False
abbrev Nw (sz : Nat) : Nat → Prop := fun q => sz ≤ q
/-- an array that is only read: class cX, n places, f -/
def RA (cX : ClassId) (N : Nat → Prop) (H : Heap) (a n : Nat) (f : Nat → Int32) : Prop := ∃ cell : Cell, H[a]? = some cell ∧ cell.cls = cX ∧ (∀ k, cell.vm ≠ .statics k) ∧ cell.vm ≠ .unknown ∧ n ≤ cell.slots.size ∧ cell.slots.size.toInt32 = Int32.ofNat n ∧ (∀ j : Nat, j < n → cell.slots[j]? = some (.int (f j))) ∧ ¬ N a
/-- a String object of Latin-1 bytes at v -/
def SO (E : EvT) (N : Nat → Prop) (H : Heap) (a v : Nat) : Prop := ∃ cell : Cell, H[a]? = some cell ∧ cell.cls = E.1.1 0 ∧ cell.vm.isStatics = false ∧ cell.vm ≠ .unknown ∧ cell.slots[E.1.2 0 0]? = some (.ref v) ∧ cell.slots[E.1.2 0 1]? = some (.int 0) ∧ ¬ N a
/-- the texts that occur: at most 64 signs, each below 128 -/
def Tx (t : List Nat) : Prop := t.length ≤ 64 ∧ ∀ c ∈ t, c < 128
def tb (t : List Nat) (j : Nat) : Int32 := nI (t.getD j 0)
def Str (E : EvT) (N : Nat → Prop) (H : Heap) (a : Nat) (t : List Nat) : Prop := Tx t ∧ ∃ v, SO E N H a v ∧ RA (eB E) N H v t.length (tb t)
theorem RA.st {cX : ClassId} {N A : Nat → Prop} {H H1 : Heap} {a n : Nat} {f : Nat → Int32} (h : RA cX N H a n f) (hq : ∀ q : Nat, q < H.size → ¬ A q → H1[q]? = H[q]?) (hN : ∀ q : Nat, q < H.size → A q → N q) : RA cX N H1 a n f := by
  obtain ⟨cell, h1, h2, h3, h4, h5, h6, h7, h8⟩ := h
  have hl := (Array.getElem?_eq_some_iff.mp h1).1
  exact ⟨cell, by rw [hq a hl (fun z => h8 (hN a hl z))]; exact h1, h2, h3, h4, h5, h6, h7, h8⟩
theorem RA.mono {cX : ClassId} {N N' : Nat → Prop} {H : Heap} {a n : Nat} {f : Nat → Int32} (h : RA cX N H a n f) (hN : ∀ q : Nat, q < H.size → N' q → N q) : RA cX N' H a n f := by
  obtain ⟨cell, h1, h2, h3, h4, h5, h6, h7, h8⟩ := h
  exact ⟨cell, h1, h2, h3, h4, h5, h6, h7, fun z => h8 (hN a (Array.getElem?_eq_some_iff.mp h1).1 z)⟩
theorem RA.congr {cX : ClassId} {N : Nat → Prop} {H : Heap} {a n : Nat} {f g : Nat → Int32} (h : RA cX N H a n f) (hf : ∀ j, j < n → f j = g j) : RA cX N H a n g := by
  obtain ⟨cell, h1, h2, h3, h4, h5, h6, h7, h8⟩ := h
  exact ⟨cell, h1, h2, h3, h4, h5, h6, fun j hj => by rw [← hf j hj]; exact h7 j hj, h8⟩
theorem RA.lt {cX : ClassId} {N : Nat → Prop} {H : Heap} {a n : Nat} {f : Nat → Int32} (h : RA cX N H a n f) : a < H.size := by
  obtain ⟨cell, h1, -⟩ := h
  exact (Array.getElem?_eq_some_iff.mp h1).1
theorem RA.off {cX : ClassId} {N N' : Nat → Prop} {H : Heap} {a n : Nat} {f : Nat → Int32} (h : RA cX N H a n f) (hN : ¬ N' a) : RA cX N' H a n f := by
  obtain ⟨cell, h1, h2, h3, h4, h5, h6, h7, h8⟩ := h
  exact ⟨cell, h1, h2, h3, h4, h5, h6, h7, hN⟩
theorem RA.of {E : EvT} {cX : ClassId} {N : Nat → Prop} {H : Heap} {ws : va_W} {a n : Nat} {f : Nat → Int32} (hP : va_P E.1 vwCl ws H) (q0 : Nat) (he : ws[q0]? = some (a, .inl (cX, n, .inl f))) (hN : ¬ N a) : RA cX N H a n f :=
  ⟨_, hP q0 _ he, rfl, fun k h => (by cases h), fun h => (by cases h), Nat.le_of_eq (arrV_size _ _ _).symm, congrArg Int32.ofNat (arrV_size cX n (fun j => .int (f j))), fun j hj => arrV_read _ _ hj, hN⟩
theorem SO.st {E : EvT} {N A : Nat → Prop} {H H1 : Heap} {a v : Nat} (h : SO E N H a v) (hq : ∀ q : Nat, q < H.size → ¬ A q → H1[q]? = H[q]?) (hN : ∀ q : Nat, q < H.size → A q → N q) : SO E N H1 a v := by
  obtain ⟨cell, h1, h2, h3, h4, h5, h6, h8⟩ := h
  have hl := (Array.getElem?_eq_some_iff.mp h1).1
  exact ⟨cell, by rw [hq a hl (fun z => h8 (hN a hl z))]; exact h1, h2, h3, h4, h5, h6, h8⟩
theorem SO.mono {E : EvT} {N N' : Nat → Prop} {H : Heap} {a v : Nat} (h : SO E N H a v) (hN : ∀ q : Nat, q < H.size → N' q → N q) : SO E N' H a v := by
  obtain ⟨cell, h1, h2, h3, h4, h5, h6, h8⟩ := h
  exact ⟨cell, h1, h2, h3, h4, h5, h6, fun z => h8 (hN a (Array.getElem?_eq_some_iff.mp h1).1 z)⟩
theorem SO.lt {E : EvT} {N : Nat → Prop} {H : Heap} {a v : Nat} (h : SO E N H a v) : a < H.size := by
  obtain ⟨cell, h1, -⟩ := h
  exact (Array.getElem?_eq_some_iff.mp h1).1
theorem SO.of {E : EvT} {N : Nat → Prop} {H : Heap} {ws : va_W} {a v : Nat} {x y : Value} (hP : va_P E.1 vwCl ws H) (q0 : Nat) (he : ws[q0]? = some (a, .inr (0, [.ref v, .int 0, x, y]))) (hN : ¬ N a) : SO E N H a v := by
  obtain ⟨r, h1, cell, g1, g2, g3, g4⟩ := hP q0 _ he
  have hr : r = (RJ0, TJ0, 4) := Option.some.inj (h1.symm.trans rfl)
  subst hr
  exact ⟨cell, g1, g2, by rw [g3]; rfl, by rw [g3]; exact fun h => (by cases h), g4 0 (by decide), g4 1 (by decide), hN⟩
theorem Str.st {E : EvT} {N A : Nat → Prop} {H H1 : Heap} {a : Nat} {t : List Nat} (h : Str E N H a t) (hq : ∀ q : Nat, q < H.size → ¬ A q → H1[q]? = H[q]?) (hN : ∀ q : Nat, q < H.size → A q → N q) : Str E N H1 a t := by
  obtain ⟨h1, v, h2, h3⟩ := h
  exact ⟨h1, v, h2.st hq hN, h3.st hq hN⟩
theorem Str.mono {E : EvT} {N N' : Nat → Prop} {H : Heap} {a : Nat} {t : List Nat} (h : Str E N H a t) (hN : ∀ q : Nat, q < H.size → N' q → N q) : Str E N' H a t := by
  obtain ⟨h1, v, h2, h3⟩ := h
  exact ⟨h1, v, h2.mono hN, h3.mono hN⟩
theorem Str.lt {E : EvT} {N : Nat → Prop} {H : Heap} {a : Nat} {t : List Nat} (h : Str E N H a t) : a < H.size := by
  obtain ⟨h1, v, h2, h3⟩ := h
  exact h2.lt
/-- what holds of the tables, the statics and the constant "" all through a run -/
def Ev (E : EvT) (A : Nat → Prop) (U : State) (H : Heap) : Prop :=
  va_K E.1 vwCl (tyL E) U ∧ va_Z RJ0 "COMPACT_STRINGS" "Z" (.int 1) A U H ∧ va_Zq RJ3 "SIOOBE_FORMATTER" "Ljava/util/function/BiFunction;" A U H ∧
  (va_Fw RJ0 ⟨"java/lang/CharSequence", "length", "()I"⟩ yJ0_length U ∧ va_Fw RJ0 ⟨"java/lang/CharSequence", "charAt", "(I)C"⟩ yJ0_charAt U ∧ va_Fw RJ0 ⟨"java/lang/CharSequence", "subSequence", "(II)Ljava/lang/CharSequence;"⟩ yJ0_subSequence U ∧ va_Fw RJ0 ⟨"java/lang/CharSequence", "toString", "()Ljava/lang/String;"⟩ yJ0_toString U) ∧
  (vk_R RX1 7 "" (eS E) U ∧ vk_R RJ2 151 "" (eS E) U) ∧ va_Nw (.castable "[B" "java/lang/Cloneable") U ∧ Str E A H (eS E) []
theorem Ev.at {E : EvT} {A A1 : Nat → Prop} {s : State} {H : Heap} {locs : List Loc} (h : Ev E A s s.heap) (hS : va_S A s.heap H locs) (hA : ∀ q, A1 q → A q) : Ev E A1 s H :=
  ⟨h.1, (h.2.1.kept hS.2.1).narrow hA, (h.2.2.1.kept hS.2.1).narrow hA, h.2.2.2.1, h.2.2.2.2.1, h.2.2.2.2.2.1, (h.2.2.2.2.2.2.st hS.2.1 (fun _ _ z => z)).mono (fun q _ z => hA q z)⟩
theorem Ev.moved {E : EvT} {A : Nat → Prop} {s U : State} {H : Heap} (hW : s.WarmedH U.vm) (h : Ev E A s H) : Ev E A U H :=
  ⟨va_K.moved hW.alike h.1, va_Z.moved hW.alike h.2.1, va_Zq.moved hW.alike h.2.2.1, ⟨va_Fw.moved (by decide) hW.alike h.2.2.2.1.1, va_Fw.moved (by decide) hW.alike h.2.2.2.1.2.1, va_Fw.moved (by decide) hW.alike h.2.2.2.1.2.2.1, va_Fw.moved (by decide) hW.alike h.2.2.2.1.2.2.2⟩, ⟨vk_R.warm hW h.2.2.2.2.1.1, vk_R.warm hW h.2.2.2.2.1.2⟩, va_Nw.warmC hW h.2.2.2.2.2.1, h.2.2.2.2.2.2⟩
theorem Ev.call {E : EvT} {A : Nat → Prop} {U : State} {H : Heap} {g : JFrame} {mk : MethodId} {a : Array Value} (h : Ev E A U H) : Ev E A (U.calling g mk a) H :=
  ⟨va_K.moved (u := U) (U := U.calling g mk a) (Vm.Alike.refl U.vm) h.1, va_Z.moved (u := U) (U := U.calling g mk a) (Vm.Alike.refl U.vm) h.2.1, va_Zq.moved (u := U) (U := U.calling g mk a) (Vm.Alike.refl U.vm) h.2.2.1, ⟨va_Fw.moved (u := U) (U := U.calling g mk a) (by decide) (Vm.Alike.refl U.vm) h.2.2.2.1.1, va_Fw.moved (u := U) (U := U.calling g mk a) (by decide) (Vm.Alike.refl U.vm) h.2.2.2.1.2.1, va_Fw.moved (u := U) (U := U.calling g mk a) (by decide) (Vm.Alike.refl U.vm) h.2.2.2.1.2.2.1, va_Fw.moved (u := U) (U := U.calling g mk a) (by decide) (Vm.Alike.refl U.vm) h.2.2.2.1.2.2.2⟩, ⟨vk_R.same (u := U) (U := U.calling g mk a) rfl h.2.2.2.2.1.1, vk_R.same (u := U) (U := U.calling g mk a) rfl h.2.2.2.2.1.2⟩, va_Nw.same (u := U) (U := U.calling g mk a) rfl rfl h.2.2.2.2.2.1, h.2.2.2.2.2.2⟩
/-- a contract's start -/
def PcE (av : List Value) (E : EvT) (A : Nat → Prop) (sz : Nat) (X : Heap → Prop) : Array Value → State → Prop := va_Pc av (fun U => U.heap.size = sz ∧ Ev E A U U.heap ∧ X U.heap)
theorem PcE.blind {av : List Value} {E : EvT} {A : Nat → Prop} {sz : Nat} {X : Heap → Prop} : FrameBlind (PcE av E A sz X) := fun _ _ _ _ h => ⟨h.1, h.2.1, Ev.call h.2.2.1, h.2.2.2⟩
theorem PcE.pre {av : List Value} {E : EvT} {A A1 : Nat → Prop} {s : State} {H : Heap} {locs : List Loc} {X : Heap → Prop} (hE : Ev E A s s.heap) (hS : va_S A s.heap H locs) (hA : ∀ q, A1 q → A q) (hX : X H) : ∀ U : State, U.heap = H → s.WarmedH U.vm → PcE av E A1 H.size X av.toArray U :=
  fun U hU hW => ⟨rfl, by rw [hU], by rw [hU]; exact Ev.moved hW (hE.at hS hA), by rw [hU]; exact hX⟩
/-- a contract's ends: an int, nothing, a cell that is there, the heap as it was; a cell; nothing, the world B -/
abbrev QI (v : Int32) : Array Value → State → Outcome → State → Prop := vp_Si (fun r => r = v)
abbrev QV0 : Array Value → State → Outcome → State → Prop := va_Sv (fun _ => True)
abbrev QR0 (a : Nat) : Array Value → State → Outcome → State → Prop := va_Sr (fun k => k = a) Value.ref
abbrev QR (B : Nat → Heap → Prop) (A : Nat → Prop) : Array Value → State → Outcome → State → Prop := va_Qr (fun _ : Unit => True) (fun _ a t => B a t.heap) A
abbrev QW (B : Heap → Prop) (A : Nat → Prop) : Array Value → State → Outcome → State → Prop := va_Qv (fun _ : Unit => True) (fun _ t => B t.heap) A
abbrev QJ (v : Int32) (B : Heap → Prop) (A : Nat → Prop) : Array Value → State → Outcome → State → Prop := va_Qi (fun r (_ : Unit) => r = v) (fun _ t => B t.heap) A
/-- a method's body, from its contract's start -/
theorem ofE {l : Launch} {y : MethodName} {cc : ByteArray} {maxL : Nat} {ret : Option FieldType} {rm : Room} {av : List Value} {E : EvT} {A : Nat → Prop} {sz : Nat} {X : Heap → Prop} {Q : Array Value → State → Outcome → State → Prop} {mc ms : Nat} {free : Addr → Prop} (own : String) (ho : y.cls = own) (hy : plainName y.cls = true) (hlen : (lg_sl av).length ≤ maxL)
    (body : ∀ (p : Program) (e : Env) (s : State) (m : MethodId) (below : List Frame) (meth : Method) (c : Code) (ls : Array Slot), CallFix p m c cc maxL s av.toArray lw_all own → meth.sig.returnType = ret → meth.locks = false → meth.name = y.name → s.heap.size = sz → Ev E A s s.heap → X s.heap → lv_has ls maxL (lv_args 0 av) →
      W p l e rm s m av.toArray below meth c s.heap [] 0 0 (MQ below Q av.toArray s mc ms free) (F0 m 0 ls [])) : Met l y (ws_ y cc maxL ret) rm (PcE av E A sz X) Q mc ms free := by
  refine Met.ofW (cc := cc) (maxL := maxL) (ret := ret) hy rfl ?_
  intro p e s m args below meth c s₁ B hml hv
  obtain ⟨rfl, hsz, hE, hX⟩ := hv
  have hts := atoms_spec (ws := ws_ y cc maxL ret) B.pre
  have hts : ∀ w ∈ lw_all, w.before _ s = true := fun w h => hts w (List.mem_cons_of_mem _ h)
  have hown : s.vm.findClass own = some m.cls := by rw [← ho]; exact findClass_of_methodNamed B.named
  have hl := lv_entry av (n := maxL) hlen
  rw [lg_entry_eq]
  exact body p e s m below meth c _ ⟨B.exec, B.bytes, hml, hown, hts⟩ B.returns B.notSynchronized (name_of_methodNamed B.named B.method).1 hsz hE hX hl
section OW
variable {p : Program} {l : Launch} {e : Env} {R : Room} {s : State} {m : MethodId} {args : Array Value} {below : List Frame} {meth : Method} {c : Code} {H : Heap} {locs : List Loc} {cells slots : Nat} {Q : State → Prop}
variable {cc : ByteArray} {pc nL : Nat} {ls : Array Slot} {rest st0 : List Value} {E : EvT} {A A1 : Nat → Prop} {own : String} {ws : va_W} {mc ms : Nat} {a : Array Value}
/-- the int on top, written otherwise -/
theorem w_to {x : Int32} (y : Int32) (h : x = y) (k : W p l e R s m args below meth c H locs cells slots Q (F0 m pc ls (.int y :: rest))) : W p l e R s m args below meth c H locs cells slots Q (F0 m pc ls (.int x :: rest)) := by subst h; exact k
theorem w_to2 {x z : Int32} (y : Int32) (h : x = y) (k : W p l e R s m args below meth c H locs cells slots Q (F0 m pc ls (.int z :: .int y :: rest))) : W p l e R s m args below meth c H locs cells slots Q (F0 m pc ls (.int z :: .int x :: rest)) := by subst h; exact k
-- ends
theorem z_I {v v0 : Int32} {ty : FieldType} (hF : CallFix p m c cc nL s args lw_all own) (hr : meth.sig.returnType = some ty) (hlk : meth.locks = false) (hn : narrow ty (.int v) = .int v) (hv : v = v0) (hdg : decode cc pc = .ok (.ireturn, 1)) : W p l e R s m args below meth c s.heap [] 0 0 (MQ below (QI v0) args s 0 0 No) (F0 m pc ls [.int v]) := by
  subst hv
  exact W.zret (v := v) hF.1 hF.2.1 hr hn (fun t ht _ => ⟨v, rfl, rfl, ht⟩) (fun _ h => (by cases h)) hdg hlk
theorem z_V (hF : CallFix p m c cc nL s args lw_all own) (hr : meth.sig.returnType = none) (hlk : meth.locks = false) (hdg : decode cc pc = .ok (.return_, 1)) : W p l e R s m args below meth c s.heap [] 0 0 (MQ below QV0 args s 0 0 No) (F0 m pc ls []) :=
  W.vret hF.1 hF.2.1 hr (fun t ht _ => ⟨rfl, trivial, ht⟩) (fun _ h => (by cases h)) hdg hlk
theorem z_R {v v0 : Nat} {rt : FieldType} (hF : CallFix p m c cc nL s args lw_all own) (hr : meth.sig.returnType = some rt) (hlk : meth.locks = false) (hrt : (∃ n, rt = .object n) ∨ ∃ t, rt = .array t) (hv : v = v0) (hdg : decode cc pc = .ok (.areturn, 1)) : W p l e R s m args below meth c s.heap [] 0 0 (MQ below (QR0 v0) args s 0 0 No) (F0 m pc ls [.ref v]) := by
  subst hv
  exact W.aret (v := .ref v) hF.1 hF.2.1 hr hrt (Or.inr ⟨v, rfl⟩) (fun t ht _ => ⟨v, rfl, rfl, ht⟩) (fun _ h => (by cases h)) hdg hlk
theorem z_QR {v : Nat} {rt : FieldType} {B : Nat → Heap → Prop} (hF : CallFix p m c cc nL s args lw_all own) (hr : meth.sig.returnType = some rt) (hlk : meth.locks = false) (hrt : (∃ n, rt = .object n) ∨ ∃ t, rt = .array t) (hS : va_S A s.heap H locs) (hB : B v H) (hc : cells ≤ mc) (hs : slots ≤ ms) (hdg : decode cc pc = .ok (.areturn, 1)) : W p l e R s m args below meth c H locs cells slots (MQ below (QR B A) args s mc ms A) (F0 m pc ls [.ref v]) := by
  refine W.widen hc hs ?_
  exact W.aret (v := .ref v) hF.1 hF.2.1 hr hrt (Or.inr ⟨v, rfl⟩) (fun t ht _ => ⟨⟨(), v, rfl, trivial, by subst ht; exact hB⟩, hS.F ht⟩) hS.2.2 hdg hlk
theorem z_QW {B : Heap → Prop} (hF : CallFix p m c cc nL s args lw_all own) (hr : meth.sig.returnType = none) (hlk : meth.locks = false) (hS : va_S A s.heap H locs) (hB : B H) (hc : cells ≤ mc) (hs : slots ≤ ms) (hdg : decode cc pc = .ok (.return_, 1)) : W p l e R s m args below meth c H locs cells slots (MQ below (QW B A) args s mc ms A) (F0 m pc ls []) := by
  refine W.widen hc hs ?_
  exact W.vret hF.1 hF.2.1 hr (fun t ht _ => ⟨⟨(), rfl, trivial, by subst ht; exact hB⟩, hS.F ht⟩) hS.2.2 hdg hlk
theorem z_QJ {v v0 : Int32} {ty : FieldType} {B : Heap → Prop} (hF : CallFix p m c cc nL s args lw_all own) (hr : meth.sig.returnType = some ty) (hlk : meth.locks = false) (hn : narrow ty (.int v) = .int v) (hv : v = v0) (hS : va_S A s.heap H locs) (hB : B H) (hc : cells ≤ mc) (hs : slots ≤ ms) (hdg : decode cc pc = .ok (.ireturn, 1)) : W p l e R s m args below meth c H locs cells slots (MQ below (QJ v0 B A) args s mc ms A) (F0 m pc ls [.int v]) := by
  subst hv
  refine W.widen hc hs ?_
  exact W.zret (v := v) hF.1 hF.2.1 hr hn (fun t ht _ => ⟨⟨v, (), rfl, rfl, by subst ht; exact hB⟩, hS.F ht⟩) hS.2.2 hdg hlk
-- reading
theorem ra_arr {t0 : Nat} {cX : ClassId} {ty : FieldType} {cell : Cell} {H0 : Heap} (hE : Ev E A s H0) (ht : (tyL E)[t0]? = some (cX, ty)) (h1 : cell.cls = cX) (h2 : ∀ k, cell.vm ≠ .statics k) : s.isArrayOf cell ty := by
  have h := ((hE.1.2 t0 _ ht).1 0 (fun _ => .null)).2
  exact ⟨h2, by rw [h1]; exact h⟩
theorem r_len (hF : CallFix p m c cc nL s args lw_all own) (hE : Ev E A s s.heap) (t0 : Nat) {cX : ClassId} {ty : FieldType} (ht : (tyL E)[t0]? = some (cX, ty)) {N : Nat → Prop} {b n : Nat} {f : Nat → Int32} (h : RA cX N H b n f) (hdg : decode cc pc = .ok (.arraylength, 1))
    (k : W p l e R s m args below meth c H locs cells slots Q (F0 m (pc + 1) ls (.int (nI n) :: rest))) : W p l e R s m args below meth c H locs cells slots Q (F0 m pc ls (.ref b :: rest)) := by
  obtain ⟨cell, h1, h2, h3, h4, h5, h6, h7, h8⟩ := h
  exact W.alen (n := nI n) hF.1 hF.2.1 h1 (ra_arr hE ht h2 h3) h6 rfl rfl hdg k
theorem r_in {j sz : Nat} (hj : j < sz) (h31 : j < 2 ^ 31) : ¬ (nI j < 0 ∨ sz ≤ (nI j).toNatClampNeg) := by
  rw [nI_clamp h31]
  intro z
  rcases z with z | z
  · exact nI_pos h31 z
  · omega
theorem r_bld (hF : CallFix p m c cc nL s args lw_all own) (hE : Ev E A s s.heap) {N : Nat → Prop} {b n : Nat} {f : Nat → Int32} (h : RA (eB E) N H b n f) {j : Nat} (hj : j < n) (h31 : j < 2 ^ 31) (hdg : decode cc pc = .ok (.baload, 1))
    (k : W p l e R s m args below meth c H locs cells slots Q (F0 m (pc + 1) ls (.int (f j) :: rest))) : W p l e R s m args below meth c H locs cells slots Q (F0 m pc ls (.int (nI j) :: .ref b :: rest)) := by
  obtain ⟨cell, h1, h2, h3, h4, h5, h6, h7, h8⟩ := h
  exact W.bald (v := .int (f j)) hF.1 hF.2.1 h1 (ra_arr (t0 := 0) hE rfl h2 h3) h4 (r_in (Nat.lt_of_lt_of_le hj h5) h31) (by rw [nI_clamp h31]; exact h7 j hj) rfl rfl hdg k
theorem r_ild (hF : CallFix p m c cc nL s args lw_all own) (hE : Ev E A s s.heap) {N : Nat → Prop} {b n : Nat} {f : Nat → Int32} (h : RA (eI E) N H b n f) {j : Nat} (hj : j < n) (h31 : j < 2 ^ 31) (hdg : decode cc pc = .ok (.iaload, 1))
    (k : W p l e R s m args below meth c H locs cells slots Q (F0 m (pc + 1) ls (.int (f j) :: rest))) : W p l e R s m args below meth c H locs cells slots Q (F0 m pc ls (.int (nI j) :: .ref b :: rest)) := by
  obtain ⟨cell, h1, h2, h3, h4, h5, h6, h7, h8⟩ := h
  exact W.iald (v := .int (f j)) hF.1 hF.2.1 h1 (ra_arr (t0 := 2) hE rfl h2 h3) h4 (r_in (Nat.lt_of_lt_of_le hj h5) h31) (by rw [nI_clamp h31]; exact h7 j hj) rfl rfl hdg k
theorem r_cld (hF : CallFix p m c cc nL s args lw_all own) (hE : Ev E A s s.heap) {N : Nat → Prop} {b n : Nat} {f : Nat → Int32} (h : RA (eC E) N H b n f) {j : Nat} (hj : j < n) (h31 : j < 2 ^ 31) (hdg : decode cc pc = .ok (.caload, 1))
    (k : W p l e R s m args below meth c H locs cells slots Q (F0 m (pc + 1) ls (.int (f j) :: rest))) : W p l e R s m args below meth c H locs cells slots Q (F0 m pc ls (.int (nI j) :: .ref b :: rest)) := by
  obtain ⟨cell, h1, h2, h3, h4, h5, h6, h7, h8⟩ := h
  exact W.cald (v := .int (f j)) hF.1 hF.2.1 h1 (ra_arr (t0 := 1) hE rfl h2 h3) h4 (r_in (Nat.lt_of_lt_of_le hj h5) h31) (by rw [nI_clamp h31]; exact h7 j hj) rfl rfl hdg k
theorem so_fld {k : Nat} (hk : k < 4) (hF : CallFix p m c cc nL s args lw_all own) {H0 : Heap} (hE : Ev E A s H0) : ∃ (cf : Nat) (kf : Class) (fi : Nat) (fd : Field), s.fieldFound? (TJ0 k).1 (TJ0 k).2.1 (TJ0 k).2.2.1 = some (cf, kf, fi, fd) ∧ fd.slot = E.1.2 0 k ∧ fd.isStatic = false := by
  obtain ⟨hSl, hfc, kC, hkC, hkind⟩ := hE.1.1 0 _ rfl
  obtain ⟨cf, kf, fi, fd, hi, hsl⟩ := hSl k hk
  exact ⟨cf, kf, fi, fd, hi, hsl, (u_facts hfc hkC (u_lays hF.2.2.2.2 in_J0 hk) hi).1⟩
theorem r_val (hF : CallFix p m c cc nL s args lw_all own) (hE : Ev E A s s.heap) {idx : Nat} (hq : Cond.fieldLink own idx "java/lang/String" "value" "[B" ∈ lw_all) {N : Nat → Prop} {b v : Nat} (h : SO E N H b v) (hdg : decode cc pc = .ok (.getfield idx, 3))
    (k : W p l e R s m args below meth c H locs cells slots Q (F0 m (pc + 3) ls (.ref v :: rest))) : W p l e R s m args below meth c H locs cells slots Q (F0 m pc ls (.ref b :: rest)) := by
  obtain ⟨cell, h1, h2, h3, h4, h5, h6, h8⟩ := h
  obtain ⟨cf, kf, fi, fd, hi, hsl, hst⟩ := so_fld (k := 0) (by decide) hF hE
  exact W.getf hF.1 hF.2.1 hF.2.2.2.1 (hF.2.2.2.2 _ hq) hi hst h1 h4 (v := .ref v) (by rw [hsl]; exact h5) rfl rfl hdg k
theorem r_cod (hF : CallFix p m c cc nL s args lw_all own) (hE : Ev E A s s.heap) {idx : Nat} (hq : Cond.fieldLink own idx "java/lang/String" "coder" "B" ∈ lw_all) {N : Nat → Prop} {b v : Nat} (h : SO E N H b v) (hdg : decode cc pc = .ok (.getfield idx, 3))
    (k : W p l e R s m args below meth c H locs cells slots Q (F0 m (pc + 3) ls (.int 0 :: rest))) : W p l e R s m args below meth c H locs cells slots Q (F0 m pc ls (.ref b :: rest)) := by
  obtain ⟨cell, h1, h2, h3, h4, h5, h6, h8⟩ := h
  obtain ⟨cf, kf, fi, fd, hi, hsl, hst⟩ := so_fld (k := 1) (by decide) hF hE
  exact W.getf hF.1 hF.2.1 hF.2.2.2.1 (hF.2.2.2.2 _ hq) hi hst h1 h4 (v := .int 0) (by rw [hsl]; exact h6) rfl rfl hdg k
theorem r_cs (hF : CallFix p m c cc nL s args lw_all own) (hE : Ev E A s s.heap) (hS : va_S A s.heap H locs) {idx : Nat} (hq : Cond.fieldLink own idx "java/lang/String" "COMPACT_STRINGS" "Z" ∈ lw_all) (hdg : decode cc pc = .ok (.getstatic idx, 3))
    (k : W p l e R s m args below meth c H locs cells slots Q (F0 m (pc + 3) ls (.int 1 :: rest))) : W p l e R s m args below meth c H locs cells slots Q (F0 m pc ls rest) :=
  va_gets hF.1 hF.2.1 hE.2.1 hS hF.2.2.2.1 (hF.2.2.2.2 _ hq) (fun _ h => h) hdg k
theorem r_sf (hF : CallFix p m c cc nL s args lw_all own) (hE : Ev E A s s.heap) (hS : va_S A s.heap H locs) {idx : Nat} (hq : Cond.fieldLink own idx "jdk/internal/util/Preconditions" "SIOOBE_FORMATTER" "Ljava/util/function/BiFunction;" ∈ lw_all) (hdg : decode cc pc = .ok (.getstatic idx, 3))
    (k : ∀ fv : Value, (fv = .null ∨ ∃ t, fv = .ref t) → W p l e R s m args below meth c H locs cells slots Q (F0 m (pc + 3) ls (fv :: rest))) : W p l e R s m args below meth c H locs cells slots Q (F0 m pc ls rest) := by
  rcases hE.2.2.1 with h | ⟨t, h⟩
  · exact va_gets hF.1 hF.2.1 h hS hF.2.2.2.1 (hF.2.2.2.2 _ hq) (fun _ h => h) hdg (k _ (Or.inl rfl))
  · exact va_gets hF.1 hF.2.1 h hS hF.2.2.2.1 (hF.2.2.2.2 _ hq) (fun _ h => h) hdg (k _ (Or.inr ⟨t, rfl⟩))
theorem so_recv {N : Nat → Prop} {b v : Nat} {H0 : Heap} (hE : Ev E A s H0) (h : SO E N H b v) : ∃ cellB : Cell, H[b]? = some cellB ∧ cellB.vm.isStatics = false ∧ s.vm.findClass RJ0 = some cellB.cls := by
  obtain ⟨cell, h1, h2, h3, -⟩ := h
  exact ⟨cell, h1, h3, by rw [h2]; exact (hE.1.1 0 _ rfl).2.1⟩
theorem Str.recv {N : Nat → Prop} {b : Nat} {t : List Nat} {H0 : Heap} (hE : Ev E A s H0) (h : Str E N H b t) : ∃ cellB : Cell, H[b]? = some cellB ∧ cellB.vm.isStatics = false ∧ s.vm.findClass RJ0 = some cellB.cls := by
  obtain ⟨-, v, h, -⟩ := h
  exact so_recv hE h
-- making and writing
theorem r_new (hF : CallFix p m c cc nL s args lw_all own) {atype : ArrayType} {cX : ClassId} (hE : Ev E A s s.heap) (hq : Cond.arrayClass (newarray.typeOf atype) ∈ lw_all) (hnm : s.vm.findClass ("[" ++ (newarray.typeOf atype).toString) = some cX) (hdv : defaultValue (newarray.typeOf atype) = .int 0) (hP : va_P E.1 vwCl ws H) (hD : va_D A ws) (hS : va_S A s.heap H locs) (hA : ∀ q, s.heap.size ≤ q → A q)
    {N' : Nat} (hN : N' < 1000) (hb8 : componentBytes (newarray.typeOf atype) ≤ 8) (hcells : cells + 1 ≤ R.cells) (hslots : slots + N' ≤ R.slots) (hdg : decode cc pc = .ok (.newarray atype, 2))
    (kk : ∀ (q : Nat) (H1 : Heap), q = H.size → va_P E.1 vwCl (ws ++ [(q, .inl (cX, N', .inl (fun _ => 0)))]) H1 → va_D A (ws ++ [(q, .inl (cX, N', .inl (fun _ => 0)))]) → va_S A s.heap H1 locs → H.size ≤ H1.size → (∀ x : Nat, x < H.size → ¬ Nw H.size x → H1[x]? = H[x]?) →
      W p l e R s m args below meth c H1 locs (cells + 1) (slots + N') Q (F0 m (pc + 2) ls (.ref q :: rest))) : W p l e R s m args below meth c H locs cells slots Q (F0 m pc ls (.int (nI N') :: rest)) := by
  refine va_newaK hF.1 hF.2.1 (hF.2.2.2.2 _ hq) rfl hdg rfl (nI_pos (by omega)) (nI_clamp (by omega)) (by
    have := Nat.mul_le_mul (Nat.le_of_lt hN) hb8
    omega) hcells hslots rfl fun H1 cA e1 z1 o1 hAr hNm => ?_
  cases hnm.symm.trans hNm
  have hk : ∀ (k : Nat) (x : Nat × va_E), ws[k]? = some x → H1[x.1]? = H[x.1]? := fun k x hx => o1 x.1 ((hP k x hx).lt)
  refine kk H.size H1 rfl ((hP.kept hk).app (fun k x hx => ?_)) (hD.push hP rfl (hA _ hS.1)) ⟨Nat.le_trans hS.1 (by omega), fun x h1 h2 => (o1 x (Nat.lt_of_lt_of_le h1 hS.1)).trans (hS.2.1 x h1 h2), hS.2.2⟩ (by omega) (fun x hx _ => o1 x hx)
  have hz : k < 1 := (List.getElem?_eq_some_iff.mp hx).1
  rw [show k = 0 by omega] at hx
  cases hx
  show H1[H.size]? = some (vp_cell _ _)
  rw [vp_cell_i, e1, hdv]
theorem r_bst (hF : CallFix p m c cc nL s args lw_all own) (hE : Ev E A s s.heap) (hP : va_P E.1 vwCl ws H) (hD : va_D A ws) (hS : va_S A s.heap H locs) (q0 : Nat) {b n : Nat} {f : Nat → Int32} (ha : ws[q0]? = some (b, .inl (eB E, n, .inl f))) {j : Nat} {x : Int32} (hj : j < n) (h31 : n < 2 ^ 31) (hx : vp_nar .byte x = x) (hdg : decode cc pc = .ok (.bastore, 1))
    (kk : ∀ (H1 : Heap) (locs1 : List Loc), va_P E.1 vwCl (ws.set q0 (b, .inl (eB E, n, .inl (upd f j x)))) H1 → va_D A (ws.set q0 (b, .inl (eB E, n, .inl (upd f j x)))) → va_S A s.heap H1 locs1 → W p l e R s m args below meth c H1 locs1 cells slots Q (F0 m (pc + 1) ls rest)) : W p l e R s m args below meth c H locs cells slots Q (F0 m pc ls (.int x :: .int (nI j) :: .ref b :: rest)) := by
  refine va_bast hF.1 hF.2.1 hE.1 hP hD hS q0 0 ha rfl (vp_in_nI hj h31) hdg fun H1 locs1 h1 h2 h3 => ?_
  rw [hx, nI_clamp (by omega)] at h1 h2
  exact kk H1 locs1 h1 h2 h3
theorem r_cst (hF : CallFix p m c cc nL s args lw_all own) (hE : Ev E A s s.heap) (hP : va_P E.1 vwCl ws H) (hD : va_D A ws) (hS : va_S A s.heap H locs) (q0 : Nat) {b n : Nat} {f : Nat → Int32} (ha : ws[q0]? = some (b, .inl (eC E, n, .inl f))) {j : Nat} {x : Int32} (hj : j < n) (h31 : n < 2 ^ 31) (hx : vp_nar .char x = x) (hdg : decode cc pc = .ok (.castore, 1))
    (kk : ∀ (H1 : Heap) (locs1 : List Loc), va_P E.1 vwCl (ws.set q0 (b, .inl (eC E, n, .inl (upd f j x)))) H1 → va_D A (ws.set q0 (b, .inl (eC E, n, .inl (upd f j x)))) → va_S A s.heap H1 locs1 → W p l e R s m args below meth c H1 locs1 cells slots Q (F0 m (pc + 1) ls rest)) : W p l e R s m args below meth c H locs cells slots Q (F0 m pc ls (.int x :: .int (nI j) :: .ref b :: rest)) := by
  refine va_cast hF.1 hF.2.1 hE.1 hP hD hS q0 1 ha rfl (vp_in_nI hj h31) hdg fun H1 locs1 h1 h2 h3 => ?_
  rw [hx, nI_clamp (by omega)] at h1 h2
  exact kk H1 locs1 h1 h2 h3
theorem r_ist (hF : CallFix p m c cc nL s args lw_all own) (hE : Ev E A s s.heap) (hP : va_P E.1 vwCl ws H) (hD : va_D A ws) (hS : va_S A s.heap H locs) (q0 : Nat) {b n : Nat} {f : Nat → Int32} (ha : ws[q0]? = some (b, .inl (eI E, n, .inl f))) {j : Nat} {x : Int32} (hj : j < n) (h31 : n < 2 ^ 31) (hdg : decode cc pc = .ok (.iastore, 1))
    (kk : ∀ (H1 : Heap) (locs1 : List Loc), va_P E.1 vwCl (ws.set q0 (b, .inl (eI E, n, .inl (upd f j x)))) H1 → va_D A (ws.set q0 (b, .inl (eI E, n, .inl (upd f j x)))) → va_S A s.heap H1 locs1 → W p l e R s m args below meth c H1 locs1 cells slots Q (F0 m (pc + 1) ls rest)) : W p l e R s m args below meth c H locs cells slots Q (F0 m pc ls (.int x :: .int (nI j) :: .ref b :: rest)) := by
  refine va_iast hF.1 hF.2.1 hE.1 hP hD hS q0 2 ha rfl (vp_in_nI hj h31) hdg fun H1 locs1 h1 h2 h3 => ?_
  rw [nI_clamp (by omega)] at h1 h2
  exact kk H1 locs1 h1 h2 h3
-- calls: what they ask, by kind
variable {y x : MethodName} {b : ByteArray} {L idx : Nat} {r : Option FieldType} {rm : Room} {As : List Value} {X : Heap → Prop} {Qc : Array Value → State → Outcome → State → Prop} {free : Addr → Prop} {o : Nat} {C owner : String}
theorem uS (n : Nat) (hF : CallFix p m c cc nL s args lw_all own) (hE : Ev E A s s.heap) (hS : va_S A s.heap H locs) (hA : ∀ q, A1 q → A q) (hM : Met l y (ws_ y b L r) rm (PcE As E A1 H.size X) Qc mc ms free) (hq : GoodIn lw_all (va_wsS own idx y (ws_ y b L r))) (hX : X H) (hl : ls.size = nL) (hst : st0 = As.reverse ++ rest) (hdg : decode cc pc = .ok (.invokestatic idx, 3)) (hc : cells + mc ≤ R.cells ∧ slots + ms ≤ R.slots)
    (hn : As.length = n := by rfl) (hrm : rm.cells = mc ∧ rm.slots = ms := by exact ⟨rfl, rfl⟩) (hd : y.cls ≠ "java/lang/invoke/MethodHandle" ∧ y.cls ≠ "java/lang/invoke/VarHandle" ∧ (parseMethodDescriptor y.desc).map (fun d => d.parameters.length) = some n := by decide +kernel) (hR : rm.frames + 1 ≤ R.frames ∧ 8 + (L + 11) + rm.locals ≤ R.locals := by exact ⟨Nat.le_of_ble_eq_true rfl, Nat.le_of_ble_eq_true rfl⟩) (hroom : (rest.map fun v => v.category).sum ≤ 8 := by exact Nat.le_of_ble_eq_true rfl) :
    va_Run p l e R s m args below meth c H locs cells slots mc ms (F0 m pc ls st0) rest (Qc As.toArray) free :=
  va_runS (As := As) (rest := rest) hF hM (va_cwS n hF.2.2.2.2 hq rfl hrm.1 hrm.2 hd hR) ⟨PcE.blind, PcE.pre hE hS hA hX⟩ rfl hn hl hst (lv_room hroom) hdg hc
theorem uV (n : Nat) (hF : CallFix p m c cc nL s args lw_all own) (hE : Ev E A s s.heap) (hS : va_S A s.heap H locs) (hA : ∀ q, A1 q → A q) (hM : Met l y (ws_ y b L r) rm (PcE (.ref o :: As) E A1 H.size X) Qc mc ms free) (hq : GoodIn lw_all (wsV own idx y.cls y (ws_ y b L r))) (hrv : ∃ cellB : Cell, H[o]? = some cellB ∧ cellB.vm.isStatics = false ∧ s.vm.findClass y.cls = some cellB.cls) (hX : X H) (hl : ls.size = nL) (hst : st0 = As.reverse ++ .ref o :: rest) (hdg : decode cc pc = .ok (.invokevirtual idx, 3)) (hc : cells + mc ≤ R.cells ∧ slots + ms ≤ R.slots)
    (hn : As.length = n := by rfl) (hrm : rm.cells = mc ∧ rm.slots = ms := by exact ⟨rfl, rfl⟩) (hd : y.cls ≠ "java/lang/invoke/MethodHandle" ∧ y.cls ≠ "java/lang/invoke/VarHandle" ∧ (parseMethodDescriptor y.desc).map (fun d => d.parameters.length) = some n := by decide +kernel) (hR : rm.frames + 1 ≤ R.frames ∧ 8 + (L + 11) + rm.locals ≤ R.locals := by exact ⟨Nat.le_of_ble_eq_true rfl, Nat.le_of_ble_eq_true rfl⟩) (hroom : (rest.map fun v => v.category).sum ≤ 8 := by exact Nat.le_of_ble_eq_true rfl) :
    va_Run p l e R s m args below meth c H locs cells slots mc ms (F0 m pc ls st0) rest (Qc (Value.ref o :: As).toArray) free :=
  va_runV (As := As) (rest := rest) hF hM (cwV n hF.2.2.2.2 hq rfl hrm.1 hrm.2 ⟨rfl, hd⟩ hR) ⟨PcE.blind, hrv, PcE.pre hE hS hA hX⟩ rfl hn hl hst (lv_room hroom) hdg hc
theorem uU (n : Nat) (hF : CallFix p m c cc nL s args lw_all own) (hE : Ev E A s s.heap) (hS : va_S A s.heap H locs) (hA : ∀ q, A1 q → A q) (hM : Met l y (ws_ y b L r) rm (PcE (.ref o :: As) E A1 H.size X) Qc mc ms free) (C : String) (hq : GoodIn lw_all (va_wsU own idx C y.cls y y (ws_ y b L r))) (hrv : ∃ cellB : Cell, H[o]? = some cellB ∧ cellB.vm.isStatics = false ∧ s.vm.findClass C = some cellB.cls) (hX : X H) (hl : ls.size = nL) (hst : st0 = As.reverse ++ .ref o :: rest) (hdg : decode cc pc = .ok (.invokevirtual idx, 3)) (hc : cells + mc ≤ R.cells ∧ slots + ms ≤ R.slots)
    (hn : As.length = n := by rfl) (hrm : rm.cells = mc ∧ rm.slots = ms := by exact ⟨rfl, rfl⟩) (hd : y.cls ≠ "java/lang/invoke/MethodHandle" ∧ y.cls ≠ "java/lang/invoke/VarHandle" ∧ (parseMethodDescriptor y.desc).map (fun d => d.parameters.length) = some n := by decide +kernel) (hR : rm.frames + 1 ≤ R.frames ∧ 8 + (L + 11) + rm.locals ≤ R.locals := by exact ⟨Nat.le_of_ble_eq_true rfl, Nat.le_of_ble_eq_true rfl⟩) (hroom : (rest.map fun v => v.category).sum ≤ 8 := by exact Nat.le_of_ble_eq_true rfl) :
    va_Run p l e R s m args below meth c H locs cells slots mc ms (F0 m pc ls st0) rest (Qc (Value.ref o :: As).toArray) free :=
  va_runU (As := As) (rest := rest) (x := y) (owner := y.cls) hF hM (va_cwU n hF.2.2.2.2 hq rfl hrm.1 hrm.2 rfl hd hR) ⟨PcE.blind, hrv, PcE.pre hE hS hA hX⟩ rfl hn hl hst (lv_room hroom) hdg hc
theorem uO (n : Nat) (hF : CallFix p m c cc nL s args lw_all own) (hE : Ev E A s s.heap) (hS : va_S A s.heap H locs) (hA : ∀ q, A1 q → A q) (hM : Met l y (ws_ y b L r) rm (PcE (.ref o :: As) E A1 H.size X) Qc mc ms free) (C : String) (x : MethodName) (hq : GoodIn lw_all (va_wsO own idx C x.cls x y (ws_ y b L r))) {b0 : ByteArray} {m0 : Nat} {r0 : Option FieldType} (hq0 : Cond.code x b0 m0 r0 ∈ lw_all) (hrv : ∃ cellB : Cell, H[o]? = some cellB ∧ cellB.vm.isStatics = false ∧ s.vm.findClass C = some cellB.cls) (hX : X H) (hl : ls.size = nL) (hst : st0 = As.reverse ++ .ref o :: rest) (hdg : decode cc pc = .ok (.invokevirtual idx, 3)) (hc : cells + mc ≤ R.cells ∧ slots + ms ≤ R.slots)
    (hn : As.length = n := by rfl) (hrm : rm.cells = mc ∧ rm.slots = ms := by exact ⟨rfl, rfl⟩) (hd : x.cls ≠ "java/lang/invoke/MethodHandle" ∧ x.cls ≠ "java/lang/invoke/VarHandle" ∧ (parseMethodDescriptor x.desc).map (fun d => d.parameters.length) = some n := by decide +kernel) (hR : rm.frames + 1 ≤ R.frames ∧ 8 + (L + 11) + rm.locals ≤ R.locals := by exact ⟨Nat.le_of_ble_eq_true rfl, Nat.le_of_ble_eq_true rfl⟩) (hroom : (rest.map fun v => v.category).sum ≤ 8 := by exact Nat.le_of_ble_eq_true rfl) :
    va_Run p l e R s m args below meth c H locs cells slots mc ms (F0 m pc ls st0) rest (Qc (Value.ref o :: As).toArray) free :=
  va_runU (As := As) (rest := rest) (x := x) (owner := x.cls) hF hM (va_cwO n hF.2.2.2.2 hq rfl hrm.1 hrm.2 (h0 := hq0) hd hR) ⟨PcE.blind, hrv, PcE.pre hE hS hA hX⟩ rfl hn hl hst (lv_room hroom) hdg hc
theorem uSU (n : Nat) (hF : CallFix p m c cc nL s args lw_all own) (hE : Ev E A s s.heap) (hS : va_S A s.heap H locs) (hA : ∀ q, A1 q → A q) (hM : Met l y (ws_ y b L r) rm (PcE (.ref o :: As) E A1 H.size X) Qc mc ms free) {C : String} {cC : ClassId} (hat : ClassAt s C cC) (hq : GoodIn lw_all (va_wsSU own idx y (ws_ y b L r))) (hrv : ∃ cellB : Cell, H[o]? = some cellB ∧ cellB.vm.isStatics = false ∧ s.vm.findClass C = some cellB.cls) (hX : X H) (hl : ls.size = nL) (hst : st0 = As.reverse ++ .ref o :: rest) (hdg : decode cc pc = .ok (.invokespecial idx, 3)) (hc : cells + mc ≤ R.cells ∧ slots + ms ≤ R.slots)
    (hn : As.length = n := by rfl) (hrm : rm.cells = mc ∧ rm.slots = ms := by exact ⟨rfl, rfl⟩) (hd : y.name ≠ "<init>" ∧ (parseMethodDescriptor y.desc).map (fun d => d.parameters.length) = some n := by decide +kernel) (hR : rm.frames + 1 ≤ R.frames ∧ 8 + (L + 11) + rm.locals ≤ R.locals := by exact ⟨Nat.le_of_ble_eq_true rfl, Nat.le_of_ble_eq_true rfl⟩) (hroom : (rest.map fun v => v.category).sum ≤ 8 := by exact Nat.le_of_ble_eq_true rfl) :
    va_Run p l e R s m args below meth c H locs cells slots mc ms (F0 m pc ls st0) rest (Qc (Value.ref o :: As).toArray) free :=
  va_runSU (As := As) (rest := rest) hat hF hM (va_cwSU n hF.2.2.2.2 hq rfl hrm.1 hrm.2 hd hR) ⟨PcE.blind, hrv, PcE.pre hE hS hA hX⟩ rfl hn hl hst (lv_room hroom) hdg hc
theorem uI (n : Nat) (hF : CallFix p m c cc nL s args lw_all own) (hE : Ev E A s s.heap) (hS : va_S A s.heap H locs) (hA : ∀ q, A1 q → A q) (hM : Met l y (ws_ y b L none) rm (PcE (.ref o :: As) E A1 H.size X) Qc mc ms free) (hq1 : Cond.initialized y.cls ∈ lw_all) (hq2 : Cond.methodLink own idx y ∈ lw_all) (hq3 : Cond.instanceMethod y ∈ lw_all) (hq4 : Cond.code y b L none ∈ lw_all) (hX : X H) (hl : ls.size = nL) (hst : st0 = As.reverse ++ .ref o :: rest) (hdg : decode cc pc = .ok (.invokespecial idx, 3)) (hc : cells + mc ≤ R.cells ∧ slots + ms ≤ R.slots)
    (hn : As.length = n := by rfl) (hrm : rm.cells = mc ∧ rm.slots = ms := by exact ⟨rfl, rfl⟩) (hy1 : y.name = "<init>" := by rfl) (hd : y.cls ≠ "java/lang/invoke/MethodHandle" ∧ y.cls ≠ "java/lang/invoke/VarHandle" ∧ (parseMethodDescriptor y.desc).map (fun d => d.parameters.length) = some n := by decide +kernel) (hR : rm.frames + 1 ≤ R.frames ∧ 8 + (L + 11) + rm.locals ≤ R.locals := by exact ⟨Nat.le_of_ble_eq_true rfl, Nat.le_of_ble_eq_true rfl⟩) (hroom : (rest.map fun v => v.category).sum ≤ 8 := by exact Nat.le_of_ble_eq_true rfl) :
    va_Run p l e R s m args below meth c H locs cells slots mc ms (F0 m pc ls st0) rest (Qc (Value.ref o :: As).toArray) free :=
  va_runI (As := As) (rest := rest) hF hM (cwI n hF.2.2.2.2 (lw_meth hq4) rfl hrm.1 hrm.2 (hF.2.2.2.2 _ hq1) (hF.2.2.2.2 _ hq2) (hF.2.2.2.2 _ hq3) hy1 hd hR) ⟨PcE.blind, PcE.pre hE hS hA hX⟩ rfl hn hl hst (lv_room hroom) hdg hc
theorem uF (n : Nat) (hF : CallFix p m c cc nL s args lw_all own) (hE : Ev E A s s.heap) (hS : va_S A s.heap H locs) (hA : ∀ q, A1 q → A q) (hM : Met l y (ws_ y b L r) rm (PcE (.ref o :: As) E A1 H.size X) Qc mc ms free) {x : MethodName} (hFw : va_Fw RJ0 x y s) (hq : GoodIn lw_all (va_wsF own idx RJ0 x y (ws_ y b L r))) (hrv : ∃ cellB : Cell, H[o]? = some cellB ∧ cellB.vm.isStatics = false ∧ s.vm.findClass RJ0 = some cellB.cls) (hX : X H) (hl : ls.size = nL) (hst : st0 = As.reverse ++ .ref o :: rest) {count : Nat} (hdg : decode cc pc = .ok (.invokeinterface idx count, 5)) (hc : cells + mc ≤ R.cells ∧ slots + ms ≤ R.slots)
    (hn : As.length = n := by rfl) (hrm : rm.cells = mc ∧ rm.slots = ms := by exact ⟨rfl, rfl⟩) (hd : x.cls ≠ "java/lang/invoke/MethodHandle" ∧ x.cls ≠ "java/lang/invoke/VarHandle" ∧ (parseMethodDescriptor x.desc).map (fun d => d.parameters.length) = some n := by decide +kernel) (hR : rm.frames + 1 ≤ R.frames ∧ 8 + (L + 11) + rm.locals ≤ R.locals := by exact ⟨Nat.le_of_ble_eq_true rfl, Nat.le_of_ble_eq_true rfl⟩) (hroom : (rest.map fun v => v.category).sum ≤ 8 := by exact Nat.le_of_ble_eq_true rfl) :
    va_Run5 p l e R s m args below meth c H locs cells slots mc ms (F0 m pc ls st0) rest (Qc (Value.ref o :: As).toArray) free :=
  va_runF (As := As) (rest := rest) (hE.1.1 0 _ rfl).2 hF hM (va_cwF n hF.2.2.2.2 hq rfl hrm.1 hrm.2 hFw hd hR) ⟨PcE.blind, hrv, PcE.pre hE hS hA hX⟩ rfl hn hl hst (lv_room hroom) hdg hc
-- calls: how they go on, by what they answer
theorem tI {v : Int32} (h : va_Run p l e R s m args below meth c H locs cells slots 0 0 (F0 m pc ls st0) rest (QI v a) No) (k : W p l e R s m args below meth c H locs cells slots Q (F0 m (pc + 3) ls (.int v :: rest))) : W p l e R s m args below meth c H locs cells slots Q (F0 m pc ls st0) := vp_callSi h.run (fun r hr => by subst hr; exact k)
theorem tV (h : va_Run p l e R s m args below meth c H locs cells slots 0 0 (F0 m pc ls st0) rest (QV0 a) No) (k : W p l e R s m args below meth c H locs cells slots Q (F0 m (pc + 3) ls rest)) : W p l e R s m args below meth c H locs cells slots Q (F0 m pc ls st0) := va_csv h.run (fun _ => k)
theorem tR {v : Nat} (h : va_Run p l e R s m args below meth c H locs cells slots 0 0 (F0 m pc ls st0) rest (QR0 v a) No) (k : W p l e R s m args below meth c H locs cells slots Q (F0 m (pc + 3) ls (.ref v :: rest))) : W p l e R s m args below meth c H locs cells slots Q (F0 m pc ls st0) := va_csr h.run (fun r hr => by subst hr; exact k)
theorem tQR {B : Nat → Heap → Prop} (h : va_Run p l e R s m args below meth c H locs cells slots mc ms (F0 m pc ls st0) rest (QR B A1 a) A1) (hS : va_S A s.heap H locs) (hA : ∀ q, A1 q → A q) (k : ∀ (v : Nat) (H1 : Heap) (locs1 : List Loc), B v H1 → H.size ≤ H1.size → (∀ q : Nat, q < H.size → ¬ A1 q → H1[q]? = H[q]?) → va_S A s.heap H1 locs1 → W p l e R s m args below meth c H1 locs1 (cells + mc) (slots + ms) Q (F0 m (pc + 3) ls (.ref v :: rest))) : W p l e R s m args below meth c H locs cells slots Q (F0 m pc ls st0) :=
  va_callr h hS (fun q _ z => hA q z) hA (fun _ v t H1 locs1 ht _ _ hB hz hk hS1 => k v H1 locs1 (by rw [← ht]; exact hB) hz hk hS1)
theorem tQW {B : Heap → Prop} (h : va_Run p l e R s m args below meth c H locs cells slots mc ms (F0 m pc ls st0) rest (QW B A1 a) A1) (hS : va_S A s.heap H locs) (hA : ∀ q, A1 q → A q) (k : ∀ (H1 : Heap) (locs1 : List Loc), B H1 → H.size ≤ H1.size → (∀ q : Nat, q < H.size → ¬ A1 q → H1[q]? = H[q]?) → va_S A s.heap H1 locs1 → W p l e R s m args below meth c H1 locs1 (cells + mc) (slots + ms) Q (F0 m (pc + 3) ls rest)) : W p l e R s m args below meth c H locs cells slots Q (F0 m pc ls st0) :=
  va_callv h hS (fun q _ z => hA q z) hA (fun _ t H1 locs1 ht _ _ hB hz hk hS1 => k H1 locs1 (by rw [← ht]; exact hB) hz hk hS1)
theorem tQJ {B : Heap → Prop} {v : Int32} (h : va_Run p l e R s m args below meth c H locs cells slots mc ms (F0 m pc ls st0) rest (QJ v B A1 a) A1) (hS : va_S A s.heap H locs) (hA : ∀ q, A1 q → A q) (k : ∀ (H1 : Heap) (locs1 : List Loc), B H1 → H.size ≤ H1.size → (∀ q : Nat, q < H.size → ¬ A1 q → H1[q]? = H[q]?) → va_S A s.heap H1 locs1 → W p l e R s m args below meth c H1 locs1 (cells + mc) (slots + ms) Q (F0 m (pc + 3) ls (.int v :: rest))) : W p l e R s m args below meth c H locs cells slots Q (F0 m pc ls st0) :=
  va_calli h hS (fun q _ z => hA q z) hA (fun r _ t H1 locs1 ht _ hr hB hz hk hS1 => by subst hr; exact k H1 locs1 (by rw [← ht]; exact hB) hz hk hS1)
theorem fI {v : Int32} (h : va_Run5 p l e R s m args below meth c H locs cells slots 0 0 (F0 m pc ls st0) rest (QI v a) No) (k : W p l e R s m args below meth c H locs cells slots Q (F0 m (pc + 5) ls (.int v :: rest))) : W p l e R s m args below meth c H locs cells slots Q (F0 m pc ls st0) := va_csFi h (fun r hr => by subst hr; exact k)
theorem fR {v : Nat} (h : va_Run5 p l e R s m args below meth c H locs cells slots 0 0 (F0 m pc ls st0) rest (QR0 v a) No) (k : W p l e R s m args below meth c H locs cells slots Q (F0 m (pc + 5) ls (.ref v :: rest))) : W p l e R s m args below meth c H locs cells slots Q (F0 m pc ls st0) := va_csFr h (fun r hr => by subst hr; exact k)
theorem fQR {B : Nat → Heap → Prop} (h : va_Run5 p l e R s m args below meth c H locs cells slots mc ms (F0 m pc ls st0) rest (QR B A1 a) A1) (hS : va_S A s.heap H locs) (hA : ∀ q, A1 q → A q) (k : ∀ (v : Nat) (H1 : Heap) (locs1 : List Loc), B v H1 → H.size ≤ H1.size → (∀ q : Nat, q < H.size → ¬ A1 q → H1[q]? = H[q]?) → va_S A s.heap H1 locs1 → W p l e R s m args below meth c H1 locs1 (cells + mc) (slots + ms) Q (F0 m (pc + 5) ls (.ref v :: rest))) : W p l e R s m args below meth c H locs cells slots Q (F0 m pc ls st0) :=
  va_callFr h hS (fun q _ z => hA q z) hA (fun _ v t H1 locs1 ht _ _ hB hz hk hS1 => k v H1 locs1 (by rw [← ht]; exact hB) hz hk hS1)
end OW
end
section
/-! more rows: signs, joins of worlds, copies of byte arrays -/
set_option maxRecDepth 100000
theorem c_255 : ∀ c, c < 128 → nI c &&& nI 255 = nI c := by decide +kernel
theorem c_i2c : ∀ c, c < 128 → ((nI c).toUInt32 % 65536).toInt32 = nI c := by decide +kernel
theorem c_i2b : ∀ c, c < 128 → (nI c).toInt8.toInt32 = nI c := by decide +kernel
theorem c_nb : ∀ c, c < 128 → narrow .byte (.int (nI c)) = .int (nI c) := by decide +kernel
theorem c_nc : ∀ c, c < 128 → narrow .char (.int (nI c)) = .int (nI c) := by decide +kernel
theorem c_fb : ∀ c, c < 128 → fits .byte (.int (nI c)) = true := by decide +kernel
theorem c_vb (c : Nat) (h : c < 128) : vp_nar .byte (nI c) = nI c := by rw [vp_nar_byte]; exact c_i2b c h
theorem c_vc : ∀ c, c < 128 → vp_nar .char (nI c) = nI c := by decide +kernel
theorem nI_z {n : Nat} (h : n < 2 ^ 31) : nI n = 0 ↔ n = 0 := by
  rw [← nI_0]
  exact nI_eq h (by decide)
theorem nI_lz {n : Nat} (h : n < 2 ^ 31) : ¬ nI n < 0 := nI_pos h
theorem Tx.at {t : List Nat} (h : Tx t) (j : Nat) : t.getD j 0 < 128 := by
  rw [List.getD_eq_getElem?_getD]
  cases hj : t[j]? with
  | none => simp
  | some c => exact h.2 c (List.mem_of_getElem? hj)
theorem Tx.len {t : List Nat} (h : Tx t) : t.length ≤ 64 := h.1
/-- one cell's world is apart -/
theorem d_one {A : Nat → Prop} {a : Nat} {e : va_E} (h : A a) : va_D A [(a, e)] := by
  refine ⟨fun i j x y hi hj _ => ?_, fun k x hk => ?_⟩
  · have h1 : i < 1 := (List.getElem?_eq_some_iff.mp hi).1
    have h2 : j < 1 := (List.getElem?_eq_some_iff.mp hj).1
    omega
  · have h1 : k < 1 := (List.getElem?_eq_some_iff.mp hk).1
    have h0 : k = 0 := by omega
    subst h0
    cases hk
    exact h
/-- two cells, apart -/
theorem d_two {A : Nat → Prop} {a b : Nat} {e e' : va_E} (h : A a) (h' : A b) (hn : a ≠ b) : va_D A [(a, e), (b, e')] := by
  refine va_D.app (w1 := [(a, e)]) (w2 := [(b, e')]) (d_one h) (d_one h') (fun i j x y hi hj => ?_)
  have h1 : i < 1 := (List.getElem?_eq_some_iff.mp hi).1
  have h2 : j < 1 := (List.getElem?_eq_some_iff.mp hj).1
  have hi0 : i = 0 := by omega
  have hj0 : j = 0 := by omega
  subst hi0; subst hj0
  cases hi; cases hj
  exact hn
theorem d_ne {A : Nat → Prop} {ws : va_W} (hD : va_D A ws) (i j : Nat) {p q : Nat × va_E} (hi : ws[i]? = some p) (hj : ws[j]? = some q) (hij : i ≠ j) : p.1 ≠ q.1 := fun z => hij (hD.1 i j p q hi hj z)
theorem d_in {A : Nat → Prop} {ws : va_W} (hD : va_D A ws) (i : Nat) {p : Nat × va_E} (hi : ws[i]? = some p) : A p.1 := hD.2 i p hi
theorem p_lt {E : EvT} {ws : va_W} {H : Heap} (hP : va_P E.1 vwCl ws H) (i : Nat) {p : Nat × va_E} (hi : ws[i]? = some p) : p.1 < H.size := (hP i p hi).lt
theorem p_nil {E : EvT} {H : Heap} : va_P E.1 vwCl [] H := fun k q h => by simp at h
theorem d_nil {A : Nat → Prop} : va_D A [] := ⟨fun i j p q h => by simp at h, fun k q h => by simp at h⟩
theorem p_one {E : EvT} {a : Nat} {e : va_E} {H : Heap} (h : va_at E.1 vwCl (a, e) H) : va_P E.1 vwCl [(a, e)] H := by
  intro k q hk
  have h1 : k < 1 := (List.getElem?_eq_some_iff.mp hk).1
  have h0 : k = 0 := by omega
  subst h0
  cases hk
  exact h
/-- behind a step that keeps what was there but for A1, and what it made -/
theorem p_st {E : EvT} {ws : va_W} {H H1 : Heap} {A1 : Nat → Prop} (hP : va_P E.1 vwCl ws H) (hk : ∀ q : Nat, q < H.size → ¬ A1 q → H1[q]? = H[q]?) (hn : ∀ (k : Nat) (q : Nat × va_E), ws[k]? = some q → ¬ A1 q.1) : va_P E.1 vwCl ws H1 :=
  hP.kept (fun k q h => hk q.1 (hP k q h).lt (hn k q h))
theorem p_stN {E : EvT} {ws : va_W} {H H1 : Heap} (hP : va_P E.1 vwCl ws H) (hk : ∀ q : Nat, q < H.size → ¬ Nw H.size q → H1[q]? = H[q]?) : va_P E.1 vwCl ws H1 :=
  p_st hP hk (fun k q h z => absurd (hP k q h).lt (Nat.not_lt.mpr z))
theorem j_new {E : EvT} {A : Nat → Prop} {ws w1 : va_W} {H H1 : Heap} (hP : va_P E.1 vwCl ws H) (hD : va_D A ws) (hk : ∀ q : Nat, q < H.size → ¬ Nw H.size q → H1[q]? = H[q]?) (hA : ∀ q, H.size ≤ q → A q) (hP1 : va_P E.1 vwCl w1 H1) (hD1 : va_D (Nw H.size) w1) : va_P E.1 vwCl (ws ++ w1) H1 ∧ va_D A (ws ++ w1) :=
  ⟨(p_stN hP hk).app hP1, hD.app (hD1.weaken (fun k q _ z => hA q.1 z)) (fun i j p q hi hj z => by
    have h1 := (hP i p hi).lt
    have h2 : H.size ≤ q.1 := hD1.2 j q hj
    omega)⟩
/-- the addresses alone count -/
theorem d_re {A : Nat → Prop} {ws ws' : va_W} (hD : va_D A ws) (h : ws'.map Prod.fst = ws.map Prod.fst) : va_D A ws' := by
  have key : ∀ (k : Nat) (q : Nat × va_E), ws'[k]? = some q → ∃ q0, ws[k]? = some q0 ∧ q0.1 = q.1 := by
    intro k q hk
    have h1 : (ws'.map Prod.fst)[k]? = some q.1 := by rw [List.getElem?_map, hk]; rfl
    rw [h, List.getElem?_map] at h1
    cases hw : ws[k]? with
    | none => rw [hw] at h1; cases h1
    | some q0 => rw [hw] at h1; exact ⟨q0, rfl, Option.some.inj h1⟩
  refine ⟨fun i j x y hi hj hxy => ?_, fun k q hk => ?_⟩
  · obtain ⟨x0, h1, h2⟩ := key i x hi
    obtain ⟨y0, h3, h4⟩ := key j y hj
    exact hD.1 i j x0 y0 h1 h3 (h2.trans (hxy.trans h4.symm))
  · obtain ⟨q0, h1, h2⟩ := key k q hk
    rw [← h2]
    exact hD.2 k q0 h1
section MW
variable {p : Program} {l : Launch} {e : Env} {R : Room} {s : State} {m : MethodId} {args : Array Value} {below : List Frame} {meth : Method} {c : Code} {H : Heap} {locs : List Loc} {cells slots : Nat} {Q : State → Prop}
variable {cc : ByteArray} {pc nL : Nat} {ls : Array Slot} {rest st0 : List Value} {E : EvT} {A A1 : Nat → Prop} {own : String} {ws : va_W} {mc ms : Nat} {a : Array Value}
/-- System.arraycopy, bytes out of an array that is only read -/
theorem r_cpy (hF : CallFix p m c cc nL s args lw_all own) (hE : Ev E A s s.heap) (hl : ls.size = nL) {idx : Nat} (hq1 : Cond.methodLink own idx arraycopyName ∈ lw_all) (hq2 : Cond.native arraycopyName ∈ lw_all) (hq3 : Cond.static arraycopyName ∈ lw_all) (hq4 : Cond.initialized "java/lang/System" ∈ lw_all) (hP : va_P E.1 vwCl ws H) (hD : va_D A ws) (hS : va_S A s.heap H locs)
    {b n0 : Nat} {f : Nat → Int32} (hR : RA (eB E) A s.heap b n0 f) (q1 : Nat) {d n1 : Nat} {g : Nat → Int32} (ha1 : ws[q1]? = some (d, .inl (eB E, n1, .inl g))) {sp dp n : Nat} (h4 : sp + n ≤ n0) (h5 : dp + n ≤ n1) (hs : n0 < 2 ^ 31) (hs1 : n1 < 2 ^ 31) (hfit : ∀ i : Nat, i < n → fits .byte (.int (f (sp + i))) = true)
    (hframes : 1 ≤ R.frames) (hlocals : (rest.map fun v => v.category).sum + (nativeFrameWords "java/lang/System" "arraycopy" 5 + 11) ≤ R.locals) (hdg : decode cc pc = .ok (.invokestatic idx, 3))
    (kk : ∀ (H1 : Heap) (locs1 : List Loc), va_P E.1 vwCl (ws.set q1 (d, .inl (eB E, n1, .inl (va_cpy f g sp dp n)))) H1 → va_D A (ws.set q1 (d, .inl (eB E, n1, .inl (va_cpy f g sp dp n)))) → va_S A s.heap H1 locs1 → W p l e R s m args below meth c H1 locs1 cells slots Q (F0 m (pc + 3) ls rest)) : W p l e R s m args below meth c H locs cells slots Q (F0 m pc ls (.int (nI n) :: .int (nI dp) :: .ref d :: .int (nI sp) :: .ref b :: rest)) := by
  obtain ⟨cell, h1, h2, h3, h4', h5', h6, h7, h8⟩ := hR
  have hX : va_T .byte b n0 (fun j => .int (f j)) A s s.heap := ⟨cell, h1, ra_arr (t0 := 0) hE rfl h2 h3, h4', h5', h6, h7, h8⟩
  have e1 : (nI sp).toNatClampNeg = sp := nI_clamp (by omega)
  have e2 : (nI dp).toNatClampNeg = dp := nI_clamp (by omega)
  have e3 : (nI n).toNatClampNeg = n := nI_clamp (by omega)
  refine vk_copyt hF.1 hF.2.1 (by rw [hF.2.2.1]; exact hl.symm) hF.2.2.2.1 (hF.2.2.2.2 _ hq1) (hF.2.2.2.2 _ hq2) (hF.2.2.2.2 _ hq3) (hF.2.2.2.2 _ hq4) hE.1 hP hD hS hX q1 0 ha1 rfl (nI_pos (by omega)) (nI_pos (by omega)) (nI_pos (by omega)) (by rw [e1, e3]; exact h4) (by rw [e2, e3]; exact h5) (by rw [e1, e3]; exact hfit) hframes hlocals hdg fun H1 locs1 g1 g2 g3 => ?_
  rw [e1, e2, e3] at g1 g2
  exact kk H1 locs1 g1 g2 g3
/-- byte[].clone() of an array that is only read, from a method that has made nothing yet -/
theorem r_cln (hF : CallFix p m c cc nL s args lw_all own) (hE : Ev E (Nw s.heap.size) s s.heap) (hl : ls.size = nL) {idx : Nat} (hq1 : Cond.methodLink own idx ⟨"[B", "clone", "()Ljava/lang/Object;"⟩ ∈ lw_all) (hq2 : Cond.sameMethod "[B" "java/lang/Object" "clone" "()Ljava/lang/Object;" ∈ lw_all) (hq3 : Cond.native ⟨"java/lang/Object", "clone", "()Ljava/lang/Object;"⟩ ∈ lw_all) (hq4 : Cond.instanceMethod ⟨"java/lang/Object", "clone", "()Ljava/lang/Object;"⟩ ∈ lw_all) (hq5 : Cond.selects "[B" ⟨"[B", "clone", "()Ljava/lang/Object;"⟩ ⟨"java/lang/Object", "clone", "()Ljava/lang/Object;"⟩ ∈ lw_all)
    {b n : Nat} {f : Nat → Int32} (hX : va_P E.1 vwCl [(b, .inl (eB E, n, .inl f))] s.heap) (hfit : ∀ i : Nat, i < n → fits .byte (.int (f i)) = true)
    (hframes : 1 ≤ R.frames) (hlocals : (rest.map fun v => v.category).sum + 14 ≤ R.locals) (hcells : cells + 1 ≤ R.cells) (hslots : slots + n ≤ R.slots) (hdg : decode cc pc = .ok (.invokevirtual idx, 3))
    (kk : ∀ (q : Nat) (H1 : Heap), va_P E.1 vwCl [(q, .inl (eB E, n, .inl f))] H1 → s.heap.size ≤ q → va_S (Nw s.heap.size) s.heap H1 [] → W p l e R s m args below meth c H1 [] (cells + 1) (slots + n) Q (F0 m (pc + 3) ls (.ref q :: rest))) : W p l e R s m args below meth c s.heap [] cells slots Q (F0 m pc ls (.ref b :: rest)) := by
  have hb : b < s.heap.size := p_lt hX 0 rfl
  refine va_clone (A := fun q => q = b ∨ s.heap.size ≤ q) (H0 := s.heap) (ws := [(b, .inl (eB E, n, .inl f))]) (x := (n, .inl f)) (ty := .byte) hF.1 hF.2.1 (by rw [hF.2.2.1]; exact hl.symm) hF.2.2.2.1 (hF.2.2.2.2 _ hq1) (hF.2.2.2.2 _ hq2) (hF.2.2.2.2 _ hq3) (hF.2.2.2.2 _ hq4) (hF.2.2.2.2 _ hq5) hE.2.2.2.2.2.1 hE.1 hX (d_one (Or.inl rfl)) ⟨Nat.le_refl _, fun _ _ _ => rfl, fun _ h => by cases h⟩ (fun q h => Or.inr h) 0 0 rfl rfl (va_nm_byte (hE.1.2 0 _ rfl).2) (va_fit (fun i hi => hfit i hi)) hframes hlocals hcells hslots hdg (fun q H1 hK1 hP1 hD1 hS1 => ?_)
  have hq : s.heap.size ≤ q := by
    rcases d_in hD1 1 rfl with z | z
    · exact absurd z (d_ne hD1 1 0 rfl rfl (by decide))
    · exact z
  refine kk q H1 (hP1.sub [1] rfl) hq ⟨hS1.1, fun x h1 h2 => ?_, fun _ h => by cases h⟩
  by_cases hxb : x = b
  · subst hxb
    exact (hP1 0 _ rfl).trans (hX 0 _ rfl).symm
  · exact hS1.2.1 x h1 (fun z => z.elim hxb h2)
/-- checkcast to byte[] -/
theorem r_castB (hF : CallFix p m c cc nL s args lw_all own) {H0 : Heap} (hE : Ev E A s H0) {idx : Nat} (hq : Cond.classLink own idx "[B" ∈ lw_all) {b n : Nat} {f : Nat → Int32} (hP : va_P E.1 vwCl ws H) (q0 : Nat) (ha : ws[q0]? = some (b, .inl (eB E, n, .inl f))) (hdg : decode cc pc = .ok (.checkcast idx, 3))
    (k : W p l e R s m args below meth c H locs cells slots Q (F0 m (pc + 3) ls (.ref b :: rest))) : W p l e R s m args below meth c H locs cells slots Q (F0 m pc ls (.ref b :: rest)) :=
  va_castA hF.1 hF.2.1 hF.2.2.2.1 (hF.2.2.2.2 _ hq) hP q0 ha (va_nm_byte (hE.1.2 0 _ rfl).2) hdg k
end MW
end
section
/-! methods that only read: signs, checks, Strings, StringBuilders -/
set_option maxRecDepth 100000
def isUp (c : Nat) : Nat := if 65 ≤ c ∧ c ≤ 90 then 1 else 0
def isLo (c : Nat) : Nat := if 97 ≤ c ∧ c ≤ 122 then 1 else 0
def lo (c : Nat) : Nat := if 65 ≤ c ∧ c ≤ 90 then c + 32 else c
def hi (c : Nat) : Nat := if 97 ≤ c ∧ c ≤ 122 then c - 32 else c
def ai (c : Nat) : Nat := ((c ||| 32) + 65536 - 97) % 65536
theorem ai_ok : ∀ c, c < 128 → ((((nI c) ||| (nI 32)) - (nI 97)).toUInt32 % 65536).toInt32 = nI (ai c) ∧ narrow .int (.int (nI (ai c))) = .int (nI (ai c)) := by decide +kernel
def br (x : Int32) : Nat := x.toBitVec.toNat % 2 ^ 31
theorem br_and (x : Int32) : x &&& 2147483647 = nI (br x) := pk_and x 31 (by decide)
theorem br_lt (x : Int32) : br x < 2 ^ 31 := Nat.mod_lt _ (by decide)
def sg (x : Int32) : Nat := 32 + br x % 95
theorem sg_lt (x : Int32) : sg x < 128 := by
  have := Nat.mod_lt (br x) (show 95 > 0 by decide)
  unfold sg
  omega
abbrev sbW (E : EvT) (sb bv n cap : Nat) (g : Nat → Int32) : va_W := [(sb, .inr (1, [.ref bv, .int 0, .int 0, .int (nI n)])), (bv, .inl (eB E, cap, .inl g))]
theorem le0 {a b : Nat} (h : a ≤ b) (hb : b < 2 ^ 30) : nI a - nI b ≤ 0 := by
  rw [Int32.le_iff_toInt_le, pk_sub_toInt (by omega) hb]
  show (a : Int) - b ≤ 0
  omega

set_option maxHeartbeats 4000000 in
/-- no surrogate -/
theorem m_high (l : Launch) (E : EvT) (sz : Nat) (c : Nat) (hc : c < 128) : Met l yJ5_isHighSurrogate (ws_ yJ5_isHighSurrogate cJ5_isHighSurrogate 1 (some .boolean)) ({ frames := 0, cells := 0, slots := 0, locals := 0 }) (PcE [.int (nI c)] E (No) sz (fun H => True)) (QI (nI 0)) 0 0 (No) := by
  refine ofE RJ5 rfl (by decide) (Nat.le_of_ble_eq_true rfl) ?_
  intro pp ee s mm bw me cd ls hF hr hlk hnm hsz hE hX hl
  subst hsz
  have hx := hF.1
  have hb := hF.2.1
  have hS : va_S (No) s.heap s.heap [] := va_S.rf
  have hl : lv_has ls 1 [(0, .int (nI c))] := hl
  refine lv_iload_n hx hb dJ5_isHighSurrogate_0 rfl (lv_at hl 0 rfl) ?_
  refine lv_ldc (v := 55296) hx hb hF.2.2.2.1 (hF.2.2.2.2 _ q475) dJ5_isHighSurrogate_1 ?_
  refine w_to (nI 55296) (by decide) ?_
  refine lv_icmp_lt (tgt := 16) hx hb dJ5_isHighSurrogate_3 (by decide) (fun c_1 => ?_) (fun c_1 => absurd ((nI_ltI (by omega) (by omega)).mpr (by omega)) c_1)
  refine lv_iconst (v := nI 0) hx hb dJ5_isHighSurrogate_16 (by decide) ?_
  exact z_I hF hr hlk (rfl) rfl dJ5_isHighSurrogate_17
set_option maxHeartbeats 4000000 in
/-- isUpperCase -/
theorem m_isUp (l : Launch) (E : EvT) (sz : Nat) (c : Nat) (hc : c < 128) : Met l yX4_isUpperCase (ws_ yX4_isUpperCase cX4_isUpperCase 1 (some .boolean)) ({ frames := 0, cells := 0, slots := 0, locals := 0 }) (PcE [.int (nI c)] E (No) sz (fun H => True)) (QI (nI (isUp c))) 0 0 (No) := by
  refine ofE RX4 rfl (by decide) (Nat.le_of_ble_eq_true rfl) ?_
  intro pp ee s mm bw me cd ls hF hr hlk hnm hsz hE hX hl
  subst hsz
  have hx := hF.1
  have hb := hF.2.1
  have hS : va_S (No) s.heap s.heap [] := va_S.rf
  have hl : lv_has ls 1 [(0, .int (nI c))] := hl
  refine lv_iload_n hx hb dX4_isUpperCase_0 rfl (lv_at hl 0 rfl) ?_
  refine lv_bipush (v := nI 65) hx hb dX4_isUpperCase_1 (by decide) ?_
  refine lv_icmp_lt (tgt := 16) hx hb dX4_isUpperCase_3 (by decide) (fun c_1 => ?_) (fun c_1 => ?_)
  · skip
    refine lv_iconst (v := nI 0) hx hb dX4_isUpperCase_16 (by decide) ?_
    exact z_I hF hr hlk (rfl) (by rw [isUp, if_neg (fun z => absurd ((nI_ltI (by omega) (by omega)).mp c_1) (by omega))]) dX4_isUpperCase_17
  · skip
    refine lv_iload_n hx hb dX4_isUpperCase_6 rfl (lv_at hl 0 rfl) ?_
    refine lv_bipush (v := nI 90) hx hb dX4_isUpperCase_7 (by decide) ?_
    refine lv_icmp_gt (tgt := 16) hx hb dX4_isUpperCase_9 (by decide) (fun c_2 => ?_) (fun c_2 => ?_)
    · skip
      refine lv_iconst (v := nI 0) hx hb dX4_isUpperCase_16 (by decide) ?_
      exact z_I hF hr hlk (rfl) (by rw [isUp, if_neg (fun z => absurd ((nI_ltI (by omega) (by omega)).mp c_2) (by omega))]) dX4_isUpperCase_17
    · skip
      have g1 : ¬ c < 65 := fun z => c_1 ((nI_ltI (by omega) (by omega)).mpr z)
      have g2 : ¬ 90 < c := fun z => c_2 ((nI_ltI (by omega) (by omega)).mpr z)
      refine lv_iconst (v := nI 1) hx hb dX4_isUpperCase_12 (by decide) ?_
      refine lv_goto (tgt := 17) hx hb dX4_isUpperCase_13 (by decide) ?_
      exact z_I hF hr hlk (rfl) (by rw [isUp, if_pos ⟨by omega, by omega⟩]) dX4_isUpperCase_17
set_option maxHeartbeats 4000000 in
/-- isLowerCase -/
theorem m_isLo (l : Launch) (E : EvT) (sz : Nat) (c : Nat) (hc : c < 128) : Met l yX4_isLowerCase (ws_ yX4_isLowerCase cX4_isLowerCase 1 (some .boolean)) ({ frames := 0, cells := 0, slots := 0, locals := 0 }) (PcE [.int (nI c)] E (No) sz (fun H => True)) (QI (nI (isLo c))) 0 0 (No) := by
  refine ofE RX4 rfl (by decide) (Nat.le_of_ble_eq_true rfl) ?_
  intro pp ee s mm bw me cd ls hF hr hlk hnm hsz hE hX hl
  subst hsz
  have hx := hF.1
  have hb := hF.2.1
  have hS : va_S (No) s.heap s.heap [] := va_S.rf
  have hl : lv_has ls 1 [(0, .int (nI c))] := hl
  refine lv_iload_n hx hb dX4_isLowerCase_0 rfl (lv_at hl 0 rfl) ?_
  refine lv_bipush (v := nI 97) hx hb dX4_isLowerCase_1 (by decide) ?_
  refine lv_icmp_lt (tgt := 16) hx hb dX4_isLowerCase_3 (by decide) (fun c_1 => ?_) (fun c_1 => ?_)
  · skip
    refine lv_iconst (v := nI 0) hx hb dX4_isLowerCase_16 (by decide) ?_
    exact z_I hF hr hlk (rfl) (by rw [isLo, if_neg (fun z => absurd ((nI_ltI (by omega) (by omega)).mp c_1) (by omega))]) dX4_isLowerCase_17
  · skip
    refine lv_iload_n hx hb dX4_isLowerCase_6 rfl (lv_at hl 0 rfl) ?_
    refine lv_bipush (v := nI 122) hx hb dX4_isLowerCase_7 (by decide) ?_
    refine lv_icmp_gt (tgt := 16) hx hb dX4_isLowerCase_9 (by decide) (fun c_2 => ?_) (fun c_2 => ?_)
    · skip
      refine lv_iconst (v := nI 0) hx hb dX4_isLowerCase_16 (by decide) ?_
      exact z_I hF hr hlk (rfl) (by rw [isLo, if_neg (fun z => absurd ((nI_ltI (by omega) (by omega)).mp c_2) (by omega))]) dX4_isLowerCase_17
    · skip
      have g1 : ¬ c < 97 := fun z => c_1 ((nI_ltI (by omega) (by omega)).mpr z)
      have g2 : ¬ 122 < c := fun z => c_2 ((nI_ltI (by omega) (by omega)).mpr z)
      refine lv_iconst (v := nI 1) hx hb dX4_isLowerCase_12 (by decide) ?_
      refine lv_goto (tgt := 17) hx hb dX4_isLowerCase_13 (by decide) ?_
      exact z_I hF hr hlk (rfl) (by rw [isLo, if_pos ⟨by omega, by omega⟩]) dX4_isLowerCase_17
set_option maxHeartbeats 4000000 in
/-- getAlphaIndex -/
theorem m_ai (l : Launch) (E : EvT) (sz : Nat) (c : Nat) (hc : c < 128) : Met l yX4_getAlphaIndex (ws_ yX4_getAlphaIndex cX4_getAlphaIndex 1 (some .int)) ({ frames := 0, cells := 0, slots := 0, locals := 0 }) (PcE [.int (nI c)] E (No) sz (fun H => True)) (QI (nI (ai c))) 0 0 (No) := by
  refine ofE RX4 rfl (by decide) (Nat.le_of_ble_eq_true rfl) ?_
  intro pp ee s mm bw me cd ls hF hr hlk hnm hsz hE hX hl
  subst hsz
  have hx := hF.1
  have hb := hF.2.1
  have hS : va_S (No) s.heap s.heap [] := va_S.rf
  have hl : lv_has ls 1 [(0, .int (nI c))] := hl
  refine lv_iload_n hx hb dX4_getAlphaIndex_0 rfl (lv_at hl 0 rfl) ?_
  refine lv_bipush (v := nI 32) hx hb dX4_getAlphaIndex_1 (by decide) ?_
  refine lv_ior hx hb dX4_getAlphaIndex_3 ?_
  refine lv_bipush (v := nI 97) hx hb dX4_getAlphaIndex_4 (by decide) ?_
  refine lv_isub hx hb dX4_getAlphaIndex_6 ?_
  refine lv_i2c (v := nI (ai c)) hx hb dX4_getAlphaIndex_7 (ai_ok c hc).1 ?_
  exact z_I hF hr hlk ((ai_ok c hc).2) rfl dX4_getAlphaIndex_8
set_option maxHeartbeats 4000000 in
/-- canEncode -/
theorem m_can (l : Launch) (E : EvT) (sz : Nat) (c : Nat) (hc : c < 128) : Met l yJ2_canEncode (ws_ yJ2_canEncode cJ2_canEncode 1 (some .boolean)) ({ frames := 0, cells := 0, slots := 0, locals := 0 }) (PcE [.int (nI c)] E (No) sz (fun H => True)) (QI (nI 1)) 0 0 (No) := by
  refine ofE RJ2 rfl (by decide) (Nat.le_of_ble_eq_true rfl) ?_
  intro pp ee s mm bw me cd ls hF hr hlk hnm hsz hE hX hl
  subst hsz
  have hx := hF.1
  have hb := hF.2.1
  have hS : va_S (No) s.heap s.heap [] := va_S.rf
  have hl : lv_has ls 1 [(0, .int (nI c))] := hl
  refine lv_iload_n hx hb dJ2_canEncode_0 rfl (lv_at hl 0 rfl) ?_
  refine lv_sipush (v := nI 255) hx hb dJ2_canEncode_1 (by decide) ?_
  refine lv_icmp_gt (tgt := 11) hx hb dJ2_canEncode_4 (by decide) (fun c_1 => absurd c_1 (fun z => absurd ((nI_ltI (by omega) (by omega)).mp z) (by omega))) (fun c_1 => ?_)
  refine lv_iconst (v := nI 1) hx hb dJ2_canEncode_7 (by decide) ?_
  refine lv_goto (tgt := 12) hx hb dJ2_canEncode_8 (by decide) ?_
  exact z_I hF hr hlk (rfl) rfl dJ2_canEncode_12
set_option maxHeartbeats 4000000 in
/-- checkIndex -/
theorem m_ci_n (l : Launch) (E : EvT) (sz : Nat) (i n : Nat) (hi : i < n) (hn : n < 2 ^ 31) : Met l yJ3_checkIndex (ws_ yJ3_checkIndex cJ3_checkIndex 3 (some .int)) ({ frames := 0, cells := 0, slots := 0, locals := 0 }) (PcE [.int (nI i), .int (nI n), .null] E (No) sz (fun H => True)) (QI (nI i)) 0 0 (No) := by
  refine ofE RJ3 rfl (by decide) (Nat.le_of_ble_eq_true rfl) ?_
  intro pp ee s mm bw me cd ls hF hr hlk hnm hsz hE hX hl
  subst hsz
  have hx := hF.1
  have hb := hF.2.1
  have hS : va_S (No) s.heap s.heap [] := va_S.rf
  have hl : lv_has ls 3 [(0, .int (nI i)), (1, .int (nI n)), (2, .null)] := hl
  refine lv_iload_n hx hb dJ3_checkIndex_0 rfl (lv_at hl 0 rfl) ?_
  refine lv_if_lt (tgt := 9) hx hb dJ3_checkIndex_1 (by decide) (fun c_1 => absurd c_1 (nI_lz (by omega))) (fun c_1 => ?_)
  refine lv_iload_n hx hb dJ3_checkIndex_4 rfl (lv_at hl 0 rfl) ?_
  refine lv_iload_n hx hb dJ3_checkIndex_5 rfl (lv_at hl 1 rfl) ?_
  refine lv_icmp_lt (tgt := 16) hx hb dJ3_checkIndex_6 (by decide) (fun c_2 => ?_) (fun c_2 => absurd ((nI_ltI (by omega) (by omega)).mpr hi) c_2)
  refine lv_iload_n hx hb dJ3_checkIndex_16 rfl (lv_at hl 0 rfl) ?_
  exact z_I hF hr hlk (rfl) rfl dJ3_checkIndex_17
set_option maxHeartbeats 4000000 in
/-- checkFromToIndex -/
theorem m_cft_n (l : Launch) (E : EvT) (sz : Nat) (i k n : Nat) (hi : i ≤ k) (hk : k ≤ n) (hn : n < 2 ^ 31) : Met l yJ3_checkFromToIndex (ws_ yJ3_checkFromToIndex cJ3_checkFromToIndex 4 (some .int)) ({ frames := 0, cells := 0, slots := 0, locals := 0 }) (PcE [.int (nI i), .int (nI k), .int (nI n), .null] E (No) sz (fun H => True)) (QI (nI i)) 0 0 (No) := by
  refine ofE RJ3 rfl (by decide) (Nat.le_of_ble_eq_true rfl) ?_
  intro pp ee s mm bw me cd ls hF hr hlk hnm hsz hE hX hl
  subst hsz
  have hx := hF.1
  have hb := hF.2.1
  have hS : va_S (No) s.heap s.heap [] := va_S.rf
  have hl : lv_has ls 4 [(0, .int (nI i)), (1, .int (nI k)), (2, .int (nI n)), (3, .null)] := hl
  refine lv_iload_n hx hb dJ3_checkFromToIndex_0 rfl (lv_at hl 0 rfl) ?_
  refine lv_if_lt (tgt := 14) hx hb dJ3_checkFromToIndex_1 (by decide) (fun c_1 => absurd c_1 (nI_lz (by omega))) (fun c_1 => ?_)
  refine lv_iload_n hx hb dJ3_checkFromToIndex_4 rfl (lv_at hl 0 rfl) ?_
  refine lv_iload_n hx hb dJ3_checkFromToIndex_5 rfl (lv_at hl 1 rfl) ?_
  refine lv_icmp_gt (tgt := 14) hx hb dJ3_checkFromToIndex_6 (by decide) (fun c_2 => absurd c_2 (fun z => absurd ((nI_ltI (by omega) (by omega)).mp z) (by omega))) (fun c_2 => ?_)
  refine lv_iload_n hx hb dJ3_checkFromToIndex_9 rfl (lv_at hl 1 rfl) ?_
  refine lv_iload_n hx hb dJ3_checkFromToIndex_10 rfl (lv_at hl 2 rfl) ?_
  refine lv_icmp_le (tgt := 22) hx hb dJ3_checkFromToIndex_11 (by decide) (fun c_3 => ?_) (fun c_3 => absurd ((nI_leI (by omega) (by omega)).mpr (by omega)) c_3)
  refine lv_iload_n hx hb dJ3_checkFromToIndex_22 rfl (lv_at hl 0 rfl) ?_
  exact z_I hF hr hlk (rfl) rfl dJ3_checkFromToIndex_23
set_option maxHeartbeats 4000000 in
/-- checkIndex -/
theorem m_ci_r (l : Launch) (E : EvT) (sz : Nat) (i n : Nat) (hi : i < n) (hn : n < 2 ^ 31) (t : Nat) : Met l yJ3_checkIndex (ws_ yJ3_checkIndex cJ3_checkIndex 3 (some .int)) ({ frames := 0, cells := 0, slots := 0, locals := 0 }) (PcE [.int (nI i), .int (nI n), .ref t] E (No) sz (fun H => True)) (QI (nI i)) 0 0 (No) := by
  refine ofE RJ3 rfl (by decide) (Nat.le_of_ble_eq_true rfl) ?_
  intro pp ee s mm bw me cd ls hF hr hlk hnm hsz hE hX hl
  subst hsz
  have hx := hF.1
  have hb := hF.2.1
  have hS : va_S (No) s.heap s.heap [] := va_S.rf
  have hl : lv_has ls 3 [(0, .int (nI i)), (1, .int (nI n)), (2, .ref t)] := hl
  refine lv_iload_n hx hb dJ3_checkIndex_0 rfl (lv_at hl 0 rfl) ?_
  refine lv_if_lt (tgt := 9) hx hb dJ3_checkIndex_1 (by decide) (fun c_1 => absurd c_1 (nI_lz (by omega))) (fun c_1 => ?_)
  refine lv_iload_n hx hb dJ3_checkIndex_4 rfl (lv_at hl 0 rfl) ?_
  refine lv_iload_n hx hb dJ3_checkIndex_5 rfl (lv_at hl 1 rfl) ?_
  refine lv_icmp_lt (tgt := 16) hx hb dJ3_checkIndex_6 (by decide) (fun c_2 => ?_) (fun c_2 => absurd ((nI_ltI (by omega) (by omega)).mpr hi) c_2)
  refine lv_iload_n hx hb dJ3_checkIndex_16 rfl (lv_at hl 0 rfl) ?_
  exact z_I hF hr hlk (rfl) rfl dJ3_checkIndex_17
set_option maxHeartbeats 4000000 in
/-- checkFromToIndex -/
theorem m_cft_r (l : Launch) (E : EvT) (sz : Nat) (i k n : Nat) (hi : i ≤ k) (hk : k ≤ n) (hn : n < 2 ^ 31) (t : Nat) : Met l yJ3_checkFromToIndex (ws_ yJ3_checkFromToIndex cJ3_checkFromToIndex 4 (some .int)) ({ frames := 0, cells := 0, slots := 0, locals := 0 }) (PcE [.int (nI i), .int (nI k), .int (nI n), .ref t] E (No) sz (fun H => True)) (QI (nI i)) 0 0 (No) := by
  refine ofE RJ3 rfl (by decide) (Nat.le_of_ble_eq_true rfl) ?_
  intro pp ee s mm bw me cd ls hF hr hlk hnm hsz hE hX hl
  subst hsz
  have hx := hF.1
  have hb := hF.2.1
  have hS : va_S (No) s.heap s.heap [] := va_S.rf
  have hl : lv_has ls 4 [(0, .int (nI i)), (1, .int (nI k)), (2, .int (nI n)), (3, .ref t)] := hl
  refine lv_iload_n hx hb dJ3_checkFromToIndex_0 rfl (lv_at hl 0 rfl) ?_
  refine lv_if_lt (tgt := 14) hx hb dJ3_checkFromToIndex_1 (by decide) (fun c_1 => absurd c_1 (nI_lz (by omega))) (fun c_1 => ?_)
  refine lv_iload_n hx hb dJ3_checkFromToIndex_4 rfl (lv_at hl 0 rfl) ?_
  refine lv_iload_n hx hb dJ3_checkFromToIndex_5 rfl (lv_at hl 1 rfl) ?_
  refine lv_icmp_gt (tgt := 14) hx hb dJ3_checkFromToIndex_6 (by decide) (fun c_2 => absurd c_2 (fun z => absurd ((nI_ltI (by omega) (by omega)).mp z) (by omega))) (fun c_2 => ?_)
  refine lv_iload_n hx hb dJ3_checkFromToIndex_9 rfl (lv_at hl 1 rfl) ?_
  refine lv_iload_n hx hb dJ3_checkFromToIndex_10 rfl (lv_at hl 2 rfl) ?_
  refine lv_icmp_le (tgt := 22) hx hb dJ3_checkFromToIndex_11 (by decide) (fun c_3 => ?_) (fun c_3 => absurd ((nI_leI (by omega) (by omega)).mpr (by omega)) c_3)
  refine lv_iload_n hx hb dJ3_checkFromToIndex_22 rfl (lv_at hl 0 rfl) ?_
  exact z_I hF hr hlk (rfl) rfl dJ3_checkFromToIndex_23
theorem m_ci (l : Launch) (E : EvT) (sz : Nat) (i n : Nat) (hi : i < n) (hn : n < 2 ^ 31) (fv : Value) (hfv : fv = .null ∨ ∃ t, fv = .ref t) : Met l yJ3_checkIndex (ws_ yJ3_checkIndex cJ3_checkIndex 3 (some .int)) ({ frames := 0, cells := 0, slots := 0, locals := 0 }) (PcE [.int (nI i), .int (nI n), fv] E No sz (fun _ => True)) (QI (nI i)) 0 0 No := by
  rcases hfv with rfl | ⟨t, rfl⟩
  · exact m_ci_n l E sz i n hi hn
  · exact m_ci_r l E sz i n hi hn t
theorem m_cft (l : Launch) (E : EvT) (sz : Nat) (i k n : Nat) (hi : i ≤ k) (hk : k ≤ n) (hn : n < 2 ^ 31) (fv : Value) (hfv : fv = .null ∨ ∃ t, fv = .ref t) : Met l yJ3_checkFromToIndex (ws_ yJ3_checkFromToIndex cJ3_checkFromToIndex 4 (some .int)) ({ frames := 0, cells := 0, slots := 0, locals := 0 }) (PcE [.int (nI i), .int (nI k), .int (nI n), fv] E No sz (fun _ => True)) (QI (nI i)) 0 0 No := by
  rcases hfv with rfl | ⟨t, rfl⟩
  · exact m_cft_n l E sz i k n hi hk hn
  · exact m_cft_r l E sz i k n hi hk hn t
set_option maxHeartbeats 4000000 in
/-- checkIndex -/
theorem m_J0_ci (l : Launch) (E : EvT) (sz : Nat) (i n : Nat) (hi : i < n) (hn : n < 2 ^ 31) : Met l yJ0_checkIndex (ws_ yJ0_checkIndex cJ0_checkIndex 2 none) ({ frames := 1, cells := 0, slots := 0, locals := 22 }) (PcE [.int (nI i), .int (nI n)] E (No) sz (fun H => True)) (QV0) 0 0 (No) := by
  refine ofE RJ0 rfl (by decide) (Nat.le_of_ble_eq_true rfl) ?_
  intro pp ee s mm bw me cd ls hF hr hlk hnm hsz hE hX hl
  subst hsz
  have hx := hF.1
  have hb := hF.2.1
  have hS : va_S (No) s.heap s.heap [] := va_S.rf
  have hl : lv_has ls 2 [(0, .int (nI i)), (1, .int (nI n))] := hl
  refine lv_iload_n hx hb dJ0_checkIndex_0 rfl (lv_at hl 0 rfl) ?_
  refine lv_iload_n hx hb dJ0_checkIndex_1 rfl (lv_at hl 1 rfl) ?_
  refine r_sf hF hE hS q136 dJ0_checkIndex_2 (fun fv hfv => ?_)
  refine tI (v := nI i) (uS 3 (rest := []) hF hE hS (fun _ z => absurd z id) (m_ci l E s.heap.size i n hi hn fv hfv) (lw_S q218 q219 q7 q220) trivial hl.1 rfl dJ0_checkIndex_5 ⟨Nat.le_refl _, Nat.le_refl _⟩) ?_
  refine lv_pop hx hb dJ0_checkIndex_8 rfl ?_
  exact z_V hF hr hlk dJ0_checkIndex_9
set_option maxHeartbeats 4000000 in
/-- checkBoundsBeginEnd -/
theorem m_J0_cb (l : Launch) (E : EvT) (sz : Nat) (i k n : Nat) (hi : i ≤ k) (hk : k ≤ n) (hn : n < 2 ^ 31) : Met l yJ0_checkBoundsBeginEnd (ws_ yJ0_checkBoundsBeginEnd cJ0_checkBoundsBeginEnd 3 none) ({ frames := 1, cells := 0, slots := 0, locals := 23 }) (PcE [.int (nI i), .int (nI k), .int (nI n)] E (No) sz (fun H => True)) (QV0) 0 0 (No) := by
  refine ofE RJ0 rfl (by decide) (Nat.le_of_ble_eq_true rfl) ?_
  intro pp ee s mm bw me cd ls hF hr hlk hnm hsz hE hX hl
  subst hsz
  have hx := hF.1
  have hb := hF.2.1
  have hS : va_S (No) s.heap s.heap [] := va_S.rf
  have hl : lv_has ls 3 [(0, .int (nI i)), (1, .int (nI k)), (2, .int (nI n))] := hl
  refine lv_iload_n hx hb dJ0_checkBoundsBeginEnd_0 rfl (lv_at hl 0 rfl) ?_
  refine lv_iload_n hx hb dJ0_checkBoundsBeginEnd_1 rfl (lv_at hl 1 rfl) ?_
  refine lv_iload_n hx hb dJ0_checkBoundsBeginEnd_2 rfl (lv_at hl 2 rfl) ?_
  refine r_sf hF hE hS q136 dJ0_checkBoundsBeginEnd_3 (fun fv hfv => ?_)
  refine tI (v := nI i) (uS 4 (rest := []) hF hE hS (fun _ z => absurd z id) (m_cft l E s.heap.size i k n hi hk hn fv hfv) (lw_S q138 q139 q7 q140) trivial hl.1 rfl dJ0_checkBoundsBeginEnd_6 ⟨Nat.le_refl _, Nat.le_refl _⟩) ?_
  refine lv_pop hx hb dJ0_checkBoundsBeginEnd_9 rfl ?_
  exact z_V hF hr hlk dJ0_checkBoundsBeginEnd_10
set_option maxHeartbeats 4000000 in
/-- checkLength -/
theorem m_cl (l : Launch) (E : EvT) (sz : Nat) (i k : Nat) (hi : i ≤ k) (hk : k < 2 ^ 31) : Met l yJ6_checkLength (ws_ yJ6_checkLength cJ6_checkLength 2 none) ({ frames := 0, cells := 0, slots := 0, locals := 0 }) (PcE [.int (nI i), .int (nI k)] E (No) sz (fun H => True)) (QV0) 0 0 (No) := by
  refine ofE RJ6 rfl (by decide) (Nat.le_of_ble_eq_true rfl) ?_
  intro pp ee s mm bw me cd ls hF hr hlk hnm hsz hE hX hl
  subst hsz
  have hx := hF.1
  have hb := hF.2.1
  have hS : va_S (No) s.heap s.heap [] := va_S.rf
  have hl : lv_has ls 2 [(0, .int (nI i)), (1, .int (nI k))] := hl
  refine lv_iload_n hx hb dJ6_checkLength_0 rfl (lv_at hl 1 rfl) ?_
  refine lv_iload_n hx hb dJ6_checkLength_1 rfl (lv_at hl 0 rfl) ?_
  refine lv_icmp_ge (tgt := 37) hx hb dJ6_checkLength_2 (by decide) (fun c_1 => ?_) (fun c_1 => absurd ((nI_leI (by omega) (by omega)).mpr (by omega)) c_1)
  exact z_V hF hr hlk dJ6_checkLength_37
set_option maxHeartbeats 4000000 in
/-- checkNotNull -/
theorem m_cnn (l : Launch) (E : EvT) (sz : Nat) (a : Nat) : Met l yX3_checkNotNull (ws_ yX3_checkNotNull cX3_checkNotNull 1 (some (.object "java/lang/Object"))) ({ frames := 0, cells := 0, slots := 0, locals := 0 }) (PcE [.ref a] E (No) sz (fun H => True)) (QR0 a) 0 0 (No) := by
  refine ofE RX3 rfl (by decide) (Nat.le_of_ble_eq_true rfl) ?_
  intro pp ee s mm bw me cd ls hF hr hlk hnm hsz hE hX hl
  subst hsz
  have hx := hF.1
  have hb := hF.2.1
  have hS : va_S (No) s.heap s.heap [] := va_S.rf
  have hl : lv_has ls 1 [(0, .ref a)] := hl
  refine lv_aload_n hx hb dX3_checkNotNull_0 rfl (lv_at hl 0 rfl) ?_
  exact z_R hF hr hlk (Or.inl ⟨_, rfl⟩) rfl dX3_checkNotNull_1
set_option maxHeartbeats 4000000 in
/-- TextDesk.sign -/
theorem m_X1_sign (l : Launch) (E : EvT) (sz : Nat) (x : Int32) : Met l yX1_sign (ws_ yX1_sign cX1_sign 1 (some .char)) ({ frames := 0, cells := 0, slots := 0, locals := 0 }) (PcE [.int (x)] E (No) sz (fun H => True)) (QI (nI (sg x))) 0 0 (No) := by
  refine ofE RX1 rfl (by decide) (Nat.le_of_ble_eq_true rfl) ?_
  intro pp ee s mm bw me cd ls hF hr hlk hnm hsz hE hX hl
  subst hsz
  have hx := hF.1
  have hb := hF.2.1
  have hS : va_S (No) s.heap s.heap [] := va_S.rf
  have hl : lv_has ls 1 [(0, .int (x))] := hl
  refine lv_bipush (v := nI 32) hx hb dX1_sign_0 (by decide) ?_
  refine lv_iload_n hx hb dX1_sign_2 rfl (lv_at hl 0 rfl) ?_
  refine lv_ldc (v := 2147483647) hx hb hF.2.2.2.1 (hF.2.2.2.2 _ q198) dX1_sign_3 ?_
  refine lv_iand hx hb dX1_sign_5 ?_
  refine w_to (nI (br x)) (br_and x) ?_
  refine lv_bipush (v := nI 95) hx hb dX1_sign_6 (by decide) ?_
  refine lv_irem hx hb dX1_sign_8 (by decide) ?_
  refine w_to (nI (br x % 95)) (pk_rem (br_lt x) (by decide) (by decide)) ?_
  refine lv_iadd hx hb dX1_sign_9 ?_
  refine w_to (nI (32 + (br x % 95))) (nI_add _ _) ?_
  refine lv_i2c (v := nI (sg x)) hx hb dX1_sign_10 (c_i2c _ (sg_lt x)) ?_
  exact z_I hF hr hlk (c_nc _ (sg_lt x)) rfl dX1_sign_11
set_option maxHeartbeats 4000000 in
/-- bare -/
theorem m_bare (l : Launch) (E : EvT) (sz : Nat) (x : Int32) : Met l yX0_bare (ws_ yX0_bare cX0_bare 1 (some .int)) ({ frames := 0, cells := 0, slots := 0, locals := 0 }) (PcE [.int (x)] E (No) sz (fun H => True)) (QI (nI (br x))) 0 0 (No) := by
  refine ofE RX0 rfl (by decide) (Nat.le_of_ble_eq_true rfl) ?_
  intro pp ee s mm bw me cd ls hF hr hlk hnm hsz hE hX hl
  subst hsz
  have hx := hF.1
  have hb := hF.2.1
  have hS : va_S (No) s.heap s.heap [] := va_S.rf
  have hl : lv_has ls 1 [(0, .int (x))] := hl
  refine lv_iload_n hx hb dX0_bare_0 rfl (lv_at hl 0 rfl) ?_
  refine lv_ldc (v := 2147483647) hx hb hF.2.2.2.1 (hF.2.2.2.2 _ q434) dX0_bare_1 ?_
  refine lv_iand hx hb dX0_bare_3 ?_
  refine w_to (nI (br x)) (br_and x) ?_
  exact z_I hF hr hlk (rfl) rfl dX0_bare_4
set_option maxHeartbeats 4000000 in
/-- sign -/
theorem m_X0_sign (l : Launch) (E : EvT) (sz : Nat) (x : Int32) : Met l yX0_sign (ws_ yX0_sign cX0_sign 1 (some .int)) ({ frames := 1, cells := 0, slots := 0, locals := 20 }) (PcE [.int (x)] E (No) sz (fun H => True)) (QI (nI (sg x))) 0 0 (No) := by
  refine ofE RX0 rfl (by decide) (Nat.le_of_ble_eq_true rfl) ?_
  intro pp ee s mm bw me cd ls hF hr hlk hnm hsz hE hX hl
  subst hsz
  have hx := hF.1
  have hb := hF.2.1
  have hS : va_S (No) s.heap s.heap [] := va_S.rf
  have hl : lv_has ls 1 [(0, .int (x))] := hl
  refine lv_bipush (v := nI 32) hx hb dX0_sign_0 (by decide) ?_
  refine lv_iload_n hx hb dX0_sign_2 rfl (lv_at hl 0 rfl) ?_
  refine tI (v := nI (br x)) (uS 1 (rest := [.int (nI 32)]) hF hE hS (fun _ z => absurd z id) (m_bare l E s.heap.size x) (lw_S q431 q432 q0 q433) trivial hl.1 rfl dX0_sign_3 ⟨Nat.le_refl _, Nat.le_refl _⟩) ?_
  refine lv_bipush (v := nI 95) hx hb dX0_sign_6 (by decide) ?_
  refine lv_irem hx hb dX0_sign_8 (by decide) ?_
  refine w_to (nI (br x % 95)) (pk_rem (br_lt x) (by decide) (by decide)) ?_
  refine lv_iadd hx hb dX0_sign_9 ?_
  refine w_to (nI (32 + (br x % 95))) (nI_add _ _) ?_
  exact z_I hF hr hlk (rfl) rfl dX0_sign_10
set_option maxHeartbeats 4000000 in
/-- lower -/
theorem m_lo (l : Launch) (E : EvT) (sz : Nat) (c : Nat) (hc : c < 128) : Met l yX0_lower (ws_ yX0_lower cX0_lower 1 (some .int)) ({ frames := 0, cells := 0, slots := 0, locals := 0 }) (PcE [.int (nI c)] E (No) sz (fun H => True)) (QI (nI (lo c))) 0 0 (No) := by
  refine ofE RX0 rfl (by decide) (Nat.le_of_ble_eq_true rfl) ?_
  intro pp ee s mm bw me cd ls hF hr hlk hnm hsz hE hX hl
  subst hsz
  have hx := hF.1
  have hb := hF.2.1
  have hS : va_S (No) s.heap s.heap [] := va_S.rf
  have hl : lv_has ls 1 [(0, .int (nI c))] := hl
  refine lv_iload_n hx hb dX0_lower_0 rfl (lv_at hl 0 rfl) ?_
  refine lv_bipush (v := nI 65) hx hb dX0_lower_1 (by decide) ?_
  refine lv_icmp_lt (tgt := 19) hx hb dX0_lower_3 (by decide) (fun c_1 => ?_) (fun c_1 => ?_)
  · skip
    refine lv_iload_n hx hb dX0_lower_19 rfl (lv_at hl 0 rfl) ?_
    exact z_I hF hr hlk (rfl) (by rw [lo, if_neg (fun z => absurd ((nI_ltI (by omega) (by omega)).mp c_1) (by omega))]) dX0_lower_20
  · skip
    refine lv_iload_n hx hb dX0_lower_6 rfl (lv_at hl 0 rfl) ?_
    refine lv_bipush (v := nI 90) hx hb dX0_lower_7 (by decide) ?_
    refine lv_icmp_gt (tgt := 19) hx hb dX0_lower_9 (by decide) (fun c_2 => ?_) (fun c_2 => ?_)
    · skip
      refine lv_iload_n hx hb dX0_lower_19 rfl (lv_at hl 0 rfl) ?_
      exact z_I hF hr hlk (rfl) (by rw [lo, if_neg (fun z => absurd ((nI_ltI (by omega) (by omega)).mp c_2) (by omega))]) dX0_lower_20
    · skip
      have g1 : ¬ c < 65 := fun z => c_1 ((nI_ltI (by omega) (by omega)).mpr z)
      have g2 : ¬ 90 < c := fun z => c_2 ((nI_ltI (by omega) (by omega)).mpr z)
      refine lv_iload_n hx hb dX0_lower_12 rfl (lv_at hl 0 rfl) ?_
      refine lv_bipush (v := nI 32) hx hb dX0_lower_13 (by decide) ?_
      refine lv_iadd hx hb dX0_lower_15 ?_
      refine w_to (nI (c + 32)) (nI_add _ _) ?_
      refine lv_goto (tgt := 20) hx hb dX0_lower_16 (by decide) ?_
      exact z_I hF hr hlk (rfl) (by rw [lo, if_pos ⟨by omega, by omega⟩]) dX0_lower_20
set_option maxHeartbeats 4000000 in
/-- upper -/
theorem m_hi (l : Launch) (E : EvT) (sz : Nat) (c : Nat) (hc : c < 128) : Met l yX0_upper (ws_ yX0_upper cX0_upper 1 (some .int)) ({ frames := 0, cells := 0, slots := 0, locals := 0 }) (PcE [.int (nI c)] E (No) sz (fun H => True)) (QI (nI (hi c))) 0 0 (No) := by
  refine ofE RX0 rfl (by decide) (Nat.le_of_ble_eq_true rfl) ?_
  intro pp ee s mm bw me cd ls hF hr hlk hnm hsz hE hX hl
  subst hsz
  have hx := hF.1
  have hb := hF.2.1
  have hS : va_S (No) s.heap s.heap [] := va_S.rf
  have hl : lv_has ls 1 [(0, .int (nI c))] := hl
  refine lv_iload_n hx hb dX0_upper_0 rfl (lv_at hl 0 rfl) ?_
  refine lv_bipush (v := nI 97) hx hb dX0_upper_1 (by decide) ?_
  refine lv_icmp_lt (tgt := 19) hx hb dX0_upper_3 (by decide) (fun c_1 => ?_) (fun c_1 => ?_)
  · skip
    refine lv_iload_n hx hb dX0_upper_19 rfl (lv_at hl 0 rfl) ?_
    exact z_I hF hr hlk (rfl) (by rw [hi, if_neg (fun z => absurd ((nI_ltI (by omega) (by omega)).mp c_1) (by omega))]) dX0_upper_20
  · skip
    refine lv_iload_n hx hb dX0_upper_6 rfl (lv_at hl 0 rfl) ?_
    refine lv_bipush (v := nI 122) hx hb dX0_upper_7 (by decide) ?_
    refine lv_icmp_gt (tgt := 19) hx hb dX0_upper_9 (by decide) (fun c_2 => ?_) (fun c_2 => ?_)
    · skip
      refine lv_iload_n hx hb dX0_upper_19 rfl (lv_at hl 0 rfl) ?_
      exact z_I hF hr hlk (rfl) (by rw [hi, if_neg (fun z => absurd ((nI_ltI (by omega) (by omega)).mp c_2) (by omega))]) dX0_upper_20
    · skip
      have g1 : ¬ c < 97 := fun z => c_1 ((nI_ltI (by omega) (by omega)).mpr z)
      have g2 : ¬ 122 < c := fun z => c_2 ((nI_ltI (by omega) (by omega)).mpr z)
      refine lv_iload_n hx hb dX0_upper_12 rfl (lv_at hl 0 rfl) ?_
      refine lv_bipush (v := nI 32) hx hb dX0_upper_13 (by decide) ?_
      refine lv_isub hx hb dX0_upper_15 ?_
      refine w_to (nI (c - 32)) (pk_sub (by omega)) ?_
      refine lv_goto (tgt := 20) hx hb dX0_upper_16 (by decide) ?_
      exact z_I hF hr hlk (rfl) (by rw [hi, if_pos ⟨by omega, by omega⟩]) dX0_upper_20
set_option maxHeartbeats 4000000 in
/-- coder -/
theorem m_coder (l : Launch) (E : EvT) (sz : Nat) (a v : Nat) : Met l yJ0_coder (ws_ yJ0_coder cJ0_coder 1 (some .byte)) ({ frames := 0, cells := 0, slots := 0, locals := 0 }) (PcE [.ref a] E (No) sz (fun H => SO E No H a v)) (QI 0) 0 0 (No) := by
  refine ofE RJ0 rfl (by decide) (Nat.le_of_ble_eq_true rfl) ?_
  intro pp ee s mm bw me cd ls hF hr hlk hnm hsz hE hX hl
  subst hsz
  have hx := hF.1
  have hb := hF.2.1
  have hS : va_S (No) s.heap s.heap [] := va_S.rf
  have hl : lv_has ls 1 [(0, .ref a)] := hl
  refine r_cs hF hE hS q45 dJ0_coder_0 ?_
  refine lv_if_eq (tgt := 13) hx hb dJ0_coder_3 (by decide) (fun c_1 => absurd c_1 (by decide)) (fun c_1 => ?_)
  refine lv_aload_n hx hb dJ0_coder_6 rfl (lv_at hl 0 rfl) ?_
  refine r_cod hF hE q271 hX dJ0_coder_7 ?_
  refine lv_goto (tgt := 14) hx hb dJ0_coder_10 (by decide) ?_
  exact z_I hF hr hlk (rfl) rfl dJ0_coder_14
set_option maxHeartbeats 4000000 in
/-- isLatin1 -/
theorem m_isL (l : Launch) (E : EvT) (sz : Nat) (a v : Nat) : Met l yJ0_isLatin1 (ws_ yJ0_isLatin1 cJ0_isLatin1 1 (some .boolean)) ({ frames := 0, cells := 0, slots := 0, locals := 0 }) (PcE [.ref a] E (No) sz (fun H => SO E No H a v)) (QI (nI 1)) 0 0 (No) := by
  refine ofE RJ0 rfl (by decide) (Nat.le_of_ble_eq_true rfl) ?_
  intro pp ee s mm bw me cd ls hF hr hlk hnm hsz hE hX hl
  subst hsz
  have hx := hF.1
  have hb := hF.2.1
  have hS : va_S (No) s.heap s.heap [] := va_S.rf
  have hl : lv_has ls 1 [(0, .ref a)] := hl
  refine r_cs hF hE hS q45 dJ0_isLatin1_0 ?_
  refine lv_if_eq (tgt := 17) hx hb dJ0_isLatin1_3 (by decide) (fun c_1 => absurd c_1 (by decide)) (fun c_1 => ?_)
  refine lv_aload_n hx hb dJ0_isLatin1_6 rfl (lv_at hl 0 rfl) ?_
  refine r_cod hF hE q271 hX dJ0_isLatin1_7 ?_
  refine lv_if_ne (tgt := 17) hx hb dJ0_isLatin1_10 (by decide) (fun c_2 => absurd rfl c_2) (fun c_2 => ?_)
  refine lv_iconst (v := nI 1) hx hb dJ0_isLatin1_13 (by decide) ?_
  refine lv_goto (tgt := 18) hx hb dJ0_isLatin1_14 (by decide) ?_
  exact z_I hF hr hlk (rfl) rfl dJ0_isLatin1_18
set_option maxHeartbeats 4000000 in
/-- length -/
theorem m_len (l : Launch) (E : EvT) (sz : Nat) (a : Nat) (t : List Nat) : Met l yJ0_length (ws_ yJ0_length cJ0_length 1 (some .int)) ({ frames := 1, cells := 0, slots := 0, locals := 20 }) (PcE [.ref a] E (No) sz (fun H => Str E No H a t)) (QI (nI t.length)) 0 0 (No) := by
  refine ofE RJ0 rfl (by decide) (Nat.le_of_ble_eq_true rfl) ?_
  intro pp ee s mm bw me cd ls hF hr hlk hnm hsz hE hX hl
  subst hsz
  have hx := hF.1
  have hb := hF.2.1
  have hS : va_S (No) s.heap s.heap [] := va_S.rf
  have hl : lv_has ls 1 [(0, .ref a)] := hl
  obtain ⟨hT, v, hO, hR⟩ := hX
  refine lv_aload_n hx hb dJ0_length_0 rfl (lv_at hl 0 rfl) ?_
  refine r_val hF hE q270 hO dJ0_length_1 ?_
  refine r_len hF hE 0 rfl hR dJ0_length_4 ?_
  refine lv_aload_n hx hb dJ0_length_5 rfl (lv_at hl 0 rfl) ?_
  refine tI (v := 0) (uV 0 (rest := [.int (nI t.length)]) hF hE hS (fun _ z => absurd z id) (m_coder l E s.heap.size a v) (lw_V q41 q42 q43 q4 q44) (so_recv hE hO) hO hl.1 rfl dJ0_length_6 ⟨Nat.le_refl _, Nat.le_refl _⟩) ?_
  refine lv_ishr hx hb dJ0_length_9 ?_
  refine w_to (nI t.length) (sb_shr0 _) ?_
  exact z_I hF hr hlk (rfl) rfl dJ0_length_10
set_option maxHeartbeats 4000000 in
/-- charAt -/
theorem m_J2_charAt (l : Launch) (E : EvT) (sz : Nat) (v : Nat) (t : List Nat) (hT : Tx t) (i : Nat) (hi : i < t.length) : Met l yJ2_charAt (ws_ yJ2_charAt cJ2_charAt 2 (some .char)) ({ frames := 2, cells := 0, slots := 0, locals := 43 }) (PcE [.ref v, .int (nI i)] E (No) sz (fun H => RA (eB E) No H v t.length (tb t))) (QI (nI (t.getD i 0))) 0 0 (No) := by
  refine ofE RJ2 rfl (by decide) (Nat.le_of_ble_eq_true rfl) ?_
  intro pp ee s mm bw me cd ls hF hr hlk hnm hsz hE hX hl
  subst hsz
  have hx := hF.1
  have hb := hF.2.1
  have hS : va_S (No) s.heap s.heap [] := va_S.rf
  have hl : lv_has ls 2 [(0, .ref v), (1, .int (nI i))] := hl
  have h64 := hT.len
  have hc := hT.at i
  refine lv_iload_n hx hb dJ2_charAt_0 rfl (lv_at hl 1 rfl) ?_
  refine lv_aload_n hx hb dJ2_charAt_1 rfl (lv_at hl 0 rfl) ?_
  refine r_len hF hE 0 rfl hX dJ2_charAt_2 ?_
  refine tV (uS 2 (rest := []) hF hE hS (fun _ z => absurd z id) (m_J0_ci l E s.heap.size i t.length hi (by omega)) (lw_S q332 q216 q4 q217) trivial hl.1 rfl dJ2_charAt_3 ⟨Nat.le_refl _, Nat.le_refl _⟩) ?_
  refine lv_aload_n hx hb dJ2_charAt_6 rfl (lv_at hl 0 rfl) ?_
  refine lv_iload_n hx hb dJ2_charAt_7 rfl (lv_at hl 1 rfl) ?_
  refine r_bld hF hE hX hi (by omega) dJ2_charAt_8 ?_
  refine lv_sipush (v := nI 255) hx hb dJ2_charAt_9 (by decide) ?_
  refine lv_iand hx hb dJ2_charAt_12 ?_
  refine w_to (nI (t.getD i 0)) (c_255 _ hc) ?_
  refine lv_i2c (v := nI (t.getD i 0)) hx hb dJ2_charAt_13 (c_i2c _ hc) ?_
  exact z_I hF hr hlk (c_nc _ hc) rfl dJ2_charAt_14
set_option maxHeartbeats 4000000 in
/-- charAt -/
theorem m_charAt (l : Launch) (E : EvT) (sz : Nat) (a : Nat) (t : List Nat) (i : Nat) (hi : i < t.length) : Met l yJ0_charAt (ws_ yJ0_charAt cJ0_charAt 2 (some .char)) ({ frames := 3, cells := 0, slots := 0, locals := 64 }) (PcE [.ref a, .int (nI i)] E (No) sz (fun H => Str E No H a t)) (QI (nI (t.getD i 0))) 0 0 (No) := by
  refine ofE RJ0 rfl (by decide) (Nat.le_of_ble_eq_true rfl) ?_
  intro pp ee s mm bw me cd ls hF hr hlk hnm hsz hE hX hl
  subst hsz
  have hx := hF.1
  have hb := hF.2.1
  have hS : va_S (No) s.heap s.heap [] := va_S.rf
  have hl : lv_has ls 2 [(0, .ref a), (1, .int (nI i))] := hl
  obtain ⟨hT, v, hO, hR⟩ := hX
  refine lv_aload_n hx hb dJ0_charAt_0 rfl (lv_at hl 0 rfl) ?_
  refine tI (v := nI 1) (uV 0 (rest := []) hF hE hS (fun _ z => absurd z id) (m_isL l E s.heap.size a v) (lw_V q325 q326 q327 q4 q328) (so_recv hE hO) hO hl.1 rfl dJ0_charAt_1 ⟨Nat.le_refl _, Nat.le_refl _⟩) ?_
  refine lv_if_eq (tgt := 16) hx hb dJ0_charAt_4 (by decide) (fun c_1 => absurd c_1 (by decide)) (fun c_1 => ?_)
  refine lv_aload_n hx hb dJ0_charAt_7 rfl (lv_at hl 0 rfl) ?_
  refine r_val hF hE q270 hO dJ0_charAt_8 ?_
  refine lv_iload_n hx hb dJ0_charAt_11 rfl (lv_at hl 1 rfl) ?_
  refine tI (v := nI (t.getD i 0)) (uS 2 (rest := []) hF hE hS (fun _ z => absurd z id) (m_J2_charAt l E s.heap.size v t hT i hi) (lw_S q329 q330 q6 q331) hR hl.1 rfl dJ0_charAt_12 ⟨Nat.le_refl _, Nat.le_refl _⟩) ?_
  exact z_I hF hr hlk (c_nc _ (hT.at i)) rfl dJ0_charAt_15
set_option maxHeartbeats 4000000 in
/-- toString -/
theorem m_toStr (l : Launch) (E : EvT) (sz : Nat) (a : Nat) : Met l yJ0_toString (ws_ yJ0_toString cJ0_toString 1 (some (.object "java/lang/String"))) ({ frames := 0, cells := 0, slots := 0, locals := 0 }) (PcE [.ref a] E (No) sz (fun H => True)) (QR0 a) 0 0 (No) := by
  refine ofE RJ0 rfl (by decide) (Nat.le_of_ble_eq_true rfl) ?_
  intro pp ee s mm bw me cd ls hF hr hlk hnm hsz hE hX hl
  subst hsz
  have hx := hF.1
  have hb := hF.2.1
  have hS : va_S (No) s.heap s.heap [] := va_S.rf
  have hl : lv_has ls 1 [(0, .ref a)] := hl
  refine lv_aload_n hx hb dJ0_toString_0 rfl (lv_at hl 0 rfl) ?_
  exact z_R hF hr hlk (Or.inl ⟨_, rfl⟩) rfl dJ0_toString_1
set_option maxHeartbeats 4000000 in
/-- isLatin1 -/
theorem m_J7_isL (l : Launch) (E : EvT) (sz : Nat) (sb bv n cap : Nat) (g : Nat → Int32) : Met l yJ7_isLatin1 (ws_ yJ7_isLatin1 cJ7_isLatin1 1 (some .boolean)) ({ frames := 0, cells := 0, slots := 0, locals := 0 }) (PcE [.ref sb] E (No) sz (fun H => va_P E.1 vwCl (sbW E sb bv n cap g) H)) (QI (nI 1)) 0 0 (No) := by
  refine ofE RJ7 rfl (by decide) (Nat.le_of_ble_eq_true rfl) ?_
  intro pp ee s mm bw me cd ls hF hr hlk hnm hsz hE hX hl
  subst hsz
  have hx := hF.1
  have hb := hF.2.1
  have hS : va_S (No) s.heap s.heap [] := va_S.rf
  have hl : lv_has ls 1 [(0, .ref sb)] := hl
  have hP : va_P E.1 vwCl (sbW E sb bv n cap g) s.heap := hX
  refine r_cs hF hE hS q123 dJ7_isLatin1_0 ?_
  refine lv_if_eq (tgt := 17) hx hb dJ7_isLatin1_3 (by decide) (fun c_1 => absurd c_1 (by decide)) (fun c_1 => ?_)
  refine lv_aload_n hx hb dJ7_isLatin1_6 rfl (lv_at hl 0 rfl) ?_
  refine va_get (D := E.1) (cl := vwCl) (ci := 1) (v := .int (0)) (C := RJ8) (T := TJ8) (N := 4) hx hb hF.2.2.2.2 in_J8 hF.2.2.2.1 hE.1 hP 0 rfl rfl 1 (by decide) (hF.2.2.2.2 _ q184) (fun _ h9 => h9) rfl dJ7_isLatin1_7 ?_
  refine lv_if_ne (tgt := 17) hx hb dJ7_isLatin1_10 (by decide) (fun c_2 => absurd rfl c_2) (fun c_2 => ?_)
  refine lv_iconst (v := nI 1) hx hb dJ7_isLatin1_13 (by decide) ?_
  refine lv_goto (tgt := 18) hx hb dJ7_isLatin1_14 (by decide) ?_
  exact z_I hF hr hlk (rfl) rfl dJ7_isLatin1_18
set_option maxHeartbeats 4000000 in
/-- length -/
theorem m_J7_len (l : Launch) (E : EvT) (sz : Nat) (sb bv n cap : Nat) (g : Nat → Int32) : Met l yJ7_length (ws_ yJ7_length cJ7_length 1 (some .int)) ({ frames := 0, cells := 0, slots := 0, locals := 0 }) (PcE [.ref sb] E (No) sz (fun H => va_P E.1 vwCl (sbW E sb bv n cap g) H)) (QI (nI n)) 0 0 (No) := by
  refine ofE RJ7 rfl (by decide) (Nat.le_of_ble_eq_true rfl) ?_
  intro pp ee s mm bw me cd ls hF hr hlk hnm hsz hE hX hl
  subst hsz
  have hx := hF.1
  have hb := hF.2.1
  have hS : va_S (No) s.heap s.heap [] := va_S.rf
  have hl : lv_has ls 1 [(0, .ref sb)] := hl
  have hP : va_P E.1 vwCl (sbW E sb bv n cap g) s.heap := hX
  refine lv_aload_n hx hb dJ7_length_0 rfl (lv_at hl 0 rfl) ?_
  refine va_get (D := E.1) (cl := vwCl) (ci := 1) (v := .int (nI n)) (C := RJ8) (T := TJ8) (N := 4) hx hb hF.2.2.2.2 in_J8 hF.2.2.2.1 hE.1 hP 0 rfl rfl 3 (by decide) (hF.2.2.2.2 _ q186) (fun _ h9 => h9) rfl dJ7_length_1 ?_
  exact z_I hF hr hlk (rfl) rfl dJ7_length_4
set_option maxHeartbeats 4000000 in
/-- length -/
theorem m_J8_len (l : Launch) (E : EvT) (sz : Nat) (sb bv n cap : Nat) (g : Nat → Int32) : Met l yJ8_length (ws_ yJ8_length cJ8_length 1 (some .int)) ({ frames := 1, cells := 0, slots := 0, locals := 20 }) (PcE [.ref sb] E (No) sz (fun H => va_P E.1 vwCl (sbW E sb bv n cap g) H)) (QI (nI n)) 0 0 (No) := by
  refine ofE RJ8 rfl (by decide) (Nat.le_of_ble_eq_true rfl) ?_
  intro pp ee s mm bw me cd ls hF hr hlk hnm hsz hE hX hl
  subst hsz
  have hx := hF.1
  have hb := hF.2.1
  have hS : va_S (No) s.heap s.heap [] := va_S.rf
  have hl : lv_has ls 1 [(0, .ref sb)] := hl
  have hP : va_P E.1 vwCl (sbW E sb bv n cap g) s.heap := hX
  refine lv_aload_n hx hb dJ8_length_0 rfl (lv_at hl 0 rfl) ?_
  refine tI (v := nI n) (uSU 0 (rest := []) hF hE hS (fun _ z => absurd z id) (m_J7_len l E s.heap.size sb bv n cap g) (hE.1.1 1 _ rfl).2 (lw_SU q245 q241 q78 q240 q13 q246) (va_recv hE.1 hP (ci := 1) (q0 := 0) rfl rfl) hX hl.1 rfl dJ8_length_1 ⟨Nat.le_refl _, Nat.le_refl _⟩) ?_
  exact z_I hF hr hlk (rfl) rfl dJ8_length_4
set_option maxHeartbeats 4000000 in
/-- getValue -/
theorem m_J7_val (l : Launch) (E : EvT) (sz : Nat) (sb bv n cap : Nat) (g : Nat → Int32) : Met l yJ7_getValue (ws_ yJ7_getValue cJ7_getValue 1 (some (.array .byte))) ({ frames := 0, cells := 0, slots := 0, locals := 0 }) (PcE [.ref sb] E (No) sz (fun H => va_P E.1 vwCl (sbW E sb bv n cap g) H)) (QR0 bv) 0 0 (No) := by
  refine ofE RJ7 rfl (by decide) (Nat.le_of_ble_eq_true rfl) ?_
  intro pp ee s mm bw me cd ls hF hr hlk hnm hsz hE hX hl
  subst hsz
  have hx := hF.1
  have hb := hF.2.1
  have hS : va_S (No) s.heap s.heap [] := va_S.rf
  have hl : lv_has ls 1 [(0, .ref sb)] := hl
  have hP : va_P E.1 vwCl (sbW E sb bv n cap g) s.heap := hX
  refine lv_aload_n hx hb dJ7_getValue_0 rfl (lv_at hl 0 rfl) ?_
  refine va_get (D := E.1) (cl := vwCl) (ci := 1) (v := .ref bv) (C := RJ8) (T := TJ8) (N := 4) hx hb hF.2.2.2.2 in_J8 hF.2.2.2.1 hE.1 hP 0 rfl rfl 0 (by decide) (hF.2.2.2.2 _ q183) (fun _ h9 => h9) rfl dJ7_getValue_1 ?_
  exact z_R hF hr hlk (Or.inr ⟨_, rfl⟩) rfl dJ7_getValue_4
set_option maxHeartbeats 4000000 in
/-- inflateIfNeededFor -/
theorem m_J7_inf (l : Launch) (E : EvT) (sz : Nat) (sb bv n cap : Nat) (g : Nat → Int32) (a v : Nat) : Met l yJ7_inflateIfNeededFor (ws_ yJ7_inflateIfNeededFor cJ7_inflateIfNeededFor 2 none) ({ frames := 1, cells := 0, slots := 0, locals := 20 }) (PcE [.ref sb, .ref a] E (No) sz (fun H => va_P E.1 vwCl (sbW E sb bv n cap g) H ∧ SO E No H a v)) (QV0) 0 0 (No) := by
  refine ofE RJ7 rfl (by decide) (Nat.le_of_ble_eq_true rfl) ?_
  intro pp ee s mm bw me cd ls hF hr hlk hnm hsz hE hX hl
  subst hsz
  have hx := hF.1
  have hb := hF.2.1
  have hS : va_S (No) s.heap s.heap [] := va_S.rf
  have hl : lv_has ls 2 [(0, .ref sb), (1, .ref a)] := hl
  obtain ⟨hP, hO⟩ := hX
  refine r_cs hF hE hS q123 dJ7_inflateIfNeededFor_0 ?_
  refine lv_if_eq (tgt := 21) hx hb dJ7_inflateIfNeededFor_3 (by decide) (fun c_1 => absurd c_1 (by decide)) (fun c_1 => ?_)
  refine lv_aload_n hx hb dJ7_inflateIfNeededFor_6 rfl (lv_at hl 0 rfl) ?_
  refine va_get (D := E.1) (cl := vwCl) (ci := 1) (v := .int (0)) (C := RJ8) (T := TJ8) (N := 4) hx hb hF.2.2.2.2 in_J8 hF.2.2.2.1 hE.1 hP 0 rfl rfl 1 (by decide) (hF.2.2.2.2 _ q184) (fun _ h9 => h9) rfl dJ7_inflateIfNeededFor_7 ?_
  refine lv_aload_n hx hb dJ7_inflateIfNeededFor_10 rfl (lv_at hl 1 rfl) ?_
  refine tI (v := 0) (uV 0 (rest := [.int (0)]) hF hE hS (fun _ z => absurd z id) (m_coder l E s.heap.size a v) (lw_V q59 q42 q43 q4 q44) (so_recv hE hO) hO hl.1 rfl dJ7_inflateIfNeededFor_11 ⟨Nat.le_refl _, Nat.le_refl _⟩) ?_
  refine lv_icmp_eq (tgt := 21) hx hb dJ7_inflateIfNeededFor_14 (by decide) (fun c_2 => ?_) (fun c_2 => absurd rfl c_2)
  exact z_V hF hr hlk dJ7_inflateIfNeededFor_21
set_option maxHeartbeats 4000000 in
/-- ensureCapacityInternal -/
theorem m_J7_ens (l : Launch) (E : EvT) (sz : Nat) (sb bv n cap : Nat) (g : Nat → Int32) (k : Nat) (hk : k ≤ cap) (hc : cap ≤ 1000) : Met l yJ7_ensureCapacityInternal (ws_ yJ7_ensureCapacityInternal cJ7_ensureCapacityInternal 3 none) ({ frames := 0, cells := 0, slots := 0, locals := 0 }) (PcE [.ref sb, .int (nI k)] E (No) sz (fun H => va_P E.1 vwCl (sbW E sb bv n cap g) H)) (QV0) 0 0 (No) := by
  refine ofE RJ7 rfl (by decide) (Nat.le_of_ble_eq_true rfl) ?_
  intro pp ee s mm bw me cd ls hF hr hlk hnm hsz hE hX hl
  subst hsz
  have hx := hF.1
  have hb := hF.2.1
  have hS : va_S (No) s.heap s.heap [] := va_S.rf
  have hl : lv_has ls 3 [(0, .ref sb), (1, .int (nI k))] := hl
  have hP : va_P E.1 vwCl (sbW E sb bv n cap g) s.heap := hX
  refine lv_aload_n hx hb dJ7_ensureCapacityInternal_0 rfl (lv_at hl 0 rfl) ?_
  refine va_get (D := E.1) (cl := vwCl) (ci := 1) (v := .ref bv) (C := RJ8) (T := TJ8) (N := 4) hx hb hF.2.2.2.2 in_J8 hF.2.2.2.1 hE.1 hP 0 rfl rfl 0 (by decide) (hF.2.2.2.2 _ q183) (fun _ h9 => h9) rfl dJ7_ensureCapacityInternal_1 ?_
  refine r_len hF hE 0 rfl (RA.of (N := No) hP 1 rfl id) dJ7_ensureCapacityInternal_4 ?_
  refine lv_aload_n hx hb dJ7_ensureCapacityInternal_5 rfl (lv_at hl 0 rfl) ?_
  refine va_get (D := E.1) (cl := vwCl) (ci := 1) (v := .int (0)) (C := RJ8) (T := TJ8) (N := 4) hx hb hF.2.2.2.2 in_J8 hF.2.2.2.1 hE.1 hP 0 rfl rfl 1 (by decide) (hF.2.2.2.2 _ q184) (fun _ h9 => h9) rfl dJ7_ensureCapacityInternal_6 ?_
  refine lv_ishr hx hb dJ7_ensureCapacityInternal_9 ?_
  refine w_to (nI cap) (sb_shr0 _) ?_
  refine lv_istore_n (lv' := [(2, .int (nI cap)), (0, .ref sb), (1, .int (nI k))]) hx hb dJ7_ensureCapacityInternal_10 rfl hl (by decide) rfl (fun ls hl => ?_)
  refine lv_iload_n hx hb dJ7_ensureCapacityInternal_11 rfl (lv_at hl 2 rfl) ?_
  refine lv_iload_n hx hb dJ7_ensureCapacityInternal_12 rfl (lv_at hl 0 rfl) ?_
  refine lv_isub hx hb dJ7_ensureCapacityInternal_13 ?_
  refine lv_if_le (tgt := 38) hx hb dJ7_ensureCapacityInternal_14 (by decide) (fun c_1 => ?_) (fun c_1 => absurd (le0 hk (by omega)) c_1)
  exact z_V hF hr hlk dJ7_ensureCapacityInternal_38
end
section
/-! joins behind calls that write; what is only read, at a later heap -/
set_option maxRecDepth 100000
abbrev Ad (o sz : Nat) : Nat → Prop := fun q => q = o ∨ sz ≤ q
abbrev A2 (o b sz : Nat) : Nat → Prop := fun q => q = o ∨ q = b ∨ sz ≤ q
theorem RA.at {cX : ClassId} {A A1 : Nat → Prop} {H0 H : Heap} {locs : List Loc} {a n : Nat} {f : Nat → Int32} (h : RA cX A H0 a n f) (hS : va_S A H0 H locs) (hA : ∀ q, A1 q → A q) : RA cX A1 H a n f := (h.st hS.2.1 (fun _ _ z => z)).mono (fun q _ z => hA q z)
theorem SO.at {E : EvT} {A A1 : Nat → Prop} {H0 H : Heap} {locs : List Loc} {a v : Nat} (h : SO E A H0 a v) (hS : va_S A H0 H locs) (hA : ∀ q, A1 q → A q) : SO E A1 H a v := (h.st hS.2.1 (fun _ _ z => z)).mono (fun q _ z => hA q z)
theorem Str.at {E : EvT} {A A1 : Nat → Prop} {H0 H : Heap} {locs : List Loc} {a : Nat} {t : List Nat} (h : Str E A H0 a t) (hS : va_S A H0 H locs) (hA : ∀ q, A1 q → A q) : Str E A1 H a t := (h.st hS.2.1 (fun _ _ z => z)).mono (fun q _ z => hA q z)
theorem RA.no {cX : ClassId} {N : Nat → Prop} {H : Heap} {a n : Nat} {f : Nat → Int32} (h : RA cX N H a n f) : RA cX No H a n f := h.mono (fun _ _ z => z.elim)
theorem SO.no {E : EvT} {N : Nat → Prop} {H : Heap} {a v : Nat} (h : SO E N H a v) : SO E No H a v := h.mono (fun _ _ z => z.elim)
theorem Str.no {E : EvT} {N : Nat → Prop} {H : Heap} {a : Nat} {t : List Nat} (h : Str E N H a t) : Str E No H a t := h.mono (fun _ _ z => z.elim)
theorem RA.nw {cX : ClassId} {N : Nat → Prop} {H : Heap} {a n : Nat} {f : Nat → Int32} (h : RA cX N H a n f) : RA cX (Nw H.size) H a n f := h.no.mono (fun _ hq z => absurd hq (Nat.not_lt.mpr z))
theorem SO.nw {E : EvT} {N : Nat → Prop} {H : Heap} {a v : Nat} (h : SO E N H a v) : SO E (Nw H.size) H a v := h.no.mono (fun _ hq z => absurd hq (Nat.not_lt.mpr z))
theorem Str.nw {E : EvT} {N : Nat → Prop} {H : Heap} {a : Nat} {t : List Nat} (h : Str E N H a t) : Str E (Nw H.size) H a t := h.no.mono (fun _ hq z => absurd hq (Nat.not_lt.mpr z))
/-- what stands outside N stays there, where only new cells are written -/
theorem RA.keep {cX : ClassId} {N : Nat → Prop} {H H1 : Heap} {a n : Nat} {f : Nat → Int32} (h : RA cX N H a n f) (hk : ∀ q : Nat, q < H.size → ¬ Nw H.size q → H1[q]? = H[q]?) : RA cX N H1 a n f := h.st hk (fun _ hq z => absurd hq (Nat.not_lt.mpr z))
theorem Str.keep {E : EvT} {N : Nat → Prop} {H H1 : Heap} {a : Nat} {t : List Nat} (h : Str E N H a t) (hk : ∀ q : Nat, q < H.size → ¬ Nw H.size q → H1[q]? = H[q]?) : Str E N H1 a t := h.st hk (fun _ hq z => absurd hq (Nat.not_lt.mpr z))
theorem p_at {E : EvT} {A : Nat → Prop} {ws : va_W} {H0 H : Heap} {locs : List Loc} (hP : va_P E.1 vwCl ws H0) (hS : va_S A H0 H locs) (hn : ∀ (k : Nat) (q : Nat × va_E), ws[k]? = some q → ¬ A q.1) : va_P E.1 vwCl ws H := p_st hP hS.2.1 hn
theorem adA {A : Nat → Prop} {ws : va_W} {H0 H : Heap} {locs : List Loc} {o : Nat} {e : va_E} (hD : va_D A ws) (hS : va_S A H0 H locs) (hA : ∀ q, H0.size ≤ q → A q) (i : Nat) (hi : ws[i]? = some (o, e)) : ∀ q, Ad o H.size q → A q := fun q z => z.elim (fun h => by rw [h]; exact d_in hD i hi) (fun h => hA q (Nat.le_trans hS.1 h))
theorem a2A {A : Nat → Prop} {ws : va_W} {H0 H : Heap} {locs : List Loc} {o b : Nat} {e e2 : va_E} (hD : va_D A ws) (hS : va_S A H0 H locs) (hA : ∀ q, H0.size ≤ q → A q) (i j : Nat) (hi : ws[i]? = some (o, e)) (hj : ws[j]? = some (b, e2)) : ∀ q, A2 o b H.size q → A q := fun q z => z.elim (fun h => by rw [h]; exact d_in hD i hi) (fun z => z.elim (fun h => by rw [h]; exact d_in hD j hj) (fun h => hA q (Nat.le_trans hS.1 h)))
theorem d_tail {A B : Nat → Prop} {w1 : va_W} {x : Nat × va_E} {n : Nat} (hD1 : va_D B (x :: w1)) (hnew : ∀ (k : Nat) (q : Nat × va_E), w1[k]? = some q → n ≤ q.1) (hA : ∀ q, n ≤ q → A q) : va_D A w1 :=
  ⟨fun i j p q hi hj h => by
    have := hD1.1 (i + 1) (j + 1) p q (by rw [List.getElem?_cons_succ]; exact hi) (by rw [List.getElem?_cons_succ]; exact hj) h
    omega, fun k q hk => hA q.1 (hnew k q hk)⟩
theorem j_setN {E : EvT} {A : Nat → Prop} {ws w1 : va_W} {H H1 : Heap} {o : Nat} {e e' : va_E} (hP : va_P E.1 vwCl ws H) (hD : va_D A ws) (i : Nat) (hi : ws[i]? = some (o, e)) (hk : ∀ q : Nat, q < H.size → ¬ Ad o H.size q → H1[q]? = H[q]?) (hA : ∀ q, H.size ≤ q → A q) (hP1 : va_P E.1 vwCl ((o, e') :: w1) H1) (hD1 : va_D (Ad o H.size) ((o, e') :: w1)) : va_P E.1 vwCl (ws.set i (o, e') ++ w1) H1 ∧ va_D A (ws.set i (o, e') ++ w1) := by
  have hl := (List.getElem?_eq_some_iff.mp hi).1
  have hnew : ∀ (k : Nat) (q : Nat × va_E), w1[k]? = some q → H.size ≤ q.1 := by
    intro k q hq
    have h1 : ((o, e') :: w1)[k + 1]? = some q := by rw [List.getElem?_cons_succ]; exact hq
    rcases hD1.2 (k + 1) q h1 with z | z
    · exact absurd (hD1.1 (k + 1) 0 q (o, e') h1 rfl z) (by omega)
    · exact z
  have hset : ∀ (k : Nat) (q : Nat × va_E), (ws.set i (o, e'))[k]? = some q → (k = i ∧ q = (o, e')) ∨ (k ≠ i ∧ ws[k]? = some q) := by
    intro k q hq
    by_cases hki : k = i
    · subst hki
      rw [List.getElem?_set_self hl] at hq
      cases hq
      exact Or.inl ⟨rfl, rfl⟩
    · rw [List.getElem?_set_ne (Ne.symm hki)] at hq
      exact Or.inr ⟨hki, hq⟩
  refine ⟨va_P.app (fun k q hq => ?_) (fun k q hq => hP1 (k + 1) q (by rw [List.getElem?_cons_succ]; exact hq)), va_D.app (hD.set hi) (d_tail hD1 hnew hA) (fun a b x y hx hy hxy => ?_)⟩
  · rcases hset k q hq with ⟨-, rfl⟩ | ⟨hki, h⟩
    · exact hP1 0 _ rfl
    · refine (hP k q h).kept (hk q.1 (hP k q h).lt (fun z => ?_))
      rcases z with z | z
      · exact hki (hD.1 k i q (o, e) h hi z)
      · exact absurd (hP k q h).lt (Nat.not_lt.mpr z)
  · have hy1 := hnew b y hy
    rcases hset a x hx with ⟨-, rfl⟩ | ⟨-, h⟩
    · have h1 : o < H.size := (hP i _ hi).lt
      have h2 : o = y.1 := hxy
      omega
    · have h1 := (hP a x h).lt
      omega
theorem j_set {E : EvT} {A : Nat → Prop} {ws : va_W} {H H1 : Heap} {o : Nat} {e e' : va_E} (hP : va_P E.1 vwCl ws H) (hD : va_D A ws) (i : Nat) (hi : ws[i]? = some (o, e)) (hk : ∀ q : Nat, q < H.size → ¬ Ad o H.size q → H1[q]? = H[q]?) (hP1 : va_P E.1 vwCl [(o, e')] H1) : va_P E.1 vwCl (ws.set i (o, e')) H1 ∧ va_D A (ws.set i (o, e')) := by
  have hl := (List.getElem?_eq_some_iff.mp hi).1
  refine ⟨fun k q hq => ?_, hD.set hi⟩
  by_cases hki : k = i
  · subst hki
    rw [List.getElem?_set_self hl] at hq
    cases hq
    exact hP1 0 _ rfl
  · rw [List.getElem?_set_ne (Ne.symm hki)] at hq
    refine (hP k q hq).kept (hk q.1 (hP k q hq).lt (fun z => ?_))
    rcases z with z | z
    · exact hki (hD.1 k i q (o, e) hq hi z)
    · exact absurd (hP k q hq).lt (Nat.not_lt.mpr z)
theorem j_set2 {E : EvT} {A : Nat → Prop} {ws : va_W} {H H1 : Heap} {o b : Nat} {e e' e2 e2' : va_E} (hP : va_P E.1 vwCl ws H) (hD : va_D A ws) (i j : Nat) (hi : ws[i]? = some (o, e)) (hj : ws[j]? = some (b, e2)) (hij : i ≠ j) (hk : ∀ q : Nat, q < H.size → ¬ A2 o b H.size q → H1[q]? = H[q]?) (hP1 : va_P E.1 vwCl [(o, e'), (b, e2')] H1) : va_P E.1 vwCl ((ws.set i (o, e')).set j (b, e2')) H1 ∧ va_D A ((ws.set i (o, e')).set j (b, e2')) := by
  have hl := (List.getElem?_eq_some_iff.mp hi).1
  have hl2 := (List.getElem?_eq_some_iff.mp hj).1
  refine ⟨fun k q hq => ?_, (hD.set hi).set (e0 := e2) (by rw [List.getElem?_set_ne hij]; exact hj)⟩
  by_cases hkj : k = j
  · subst hkj
    rw [List.getElem?_set_self (by rw [List.length_set]; exact hl2)] at hq
    cases hq
    exact hP1 1 _ rfl
  · rw [List.getElem?_set_ne (Ne.symm hkj)] at hq
    by_cases hki : k = i
    · subst hki
      rw [List.getElem?_set_self hl] at hq
      cases hq
      exact hP1 0 _ rfl
    · rw [List.getElem?_set_ne (Ne.symm hki)] at hq
      refine (hP k q hq).kept (hk q.1 (hP k q hq).lt (fun z => ?_))
      rcases z with z | z | z
      · exact hki (hD.1 k i q (o, e) hq hi z)
      · exact hkj (hD.1 k j q (b, e2) hq hj z)
      · exact absurd (hP k q hq).lt (Nat.not_lt.mpr z)
theorem min_nI {a b : Nat} (h : a ≤ b) (hb : b < 2 ^ 31) : (if nI a < nI b then nI a else nI b) = nI a := by
  by_cases q : nI a < nI b
  · exact if_pos q
  · rw [if_neg q]
    have := Nat.le_antisymm h (Nat.not_lt.mp fun z => q (nI_lt z hb))
    rw [this]
end
section
/-! methods that make arrays and Strings -/
set_option maxRecDepth 100000

set_option maxHeartbeats 4000000 in
/-- copyOfRangeByte -/
theorem m_corb (l : Launch) (E : EvT) (sz : Nat) (v n i k : Nat) (f : Nat → Int32) (hi : i ≤ k) (hk : k ≤ n) (hn : n ≤ 200) (hf : ∀ j, j < n → fits .byte (.int (f j)) = true) : Met l yJ6_copyOfRangeByte (ws_ yJ6_copyOfRangeByte cJ6_copyOfRangeByte 5 (some (.array .byte))) ({ frames := 1, cells := 1, slots := 200, locals := 60 }) (PcE [.ref v, .int (nI i), .int (nI k)] E (Nw sz) sz (fun H => RA (eB E) No H v n f)) (QR (fun v1 H1 => ∃ g : Nat → Int32, va_P E.1 vwCl [(v1, .inl (eB E, k - i, .inl g))] H1 ∧ sz ≤ v1 ∧ ∀ j, j < k - i → g j = f (i + j)) (Nw sz)) 1 200 (Nw sz) := by
  refine ofE RJ6 rfl (by decide) (Nat.le_of_ble_eq_true rfl) ?_
  intro pp ee s mm bw me cd ls hF hr hlk hnm hsz hE hX hl
  subst hsz
  have hx := hF.1
  have hb := hF.2.1
  have hS : va_S (Nw s.heap.size) s.heap s.heap [] := va_S.rf
  have hl : lv_has ls 5 [(0, .ref v), (1, .int (nI i)), (2, .int (nI k))] := hl
  have hA : ∀ q, s.heap.size ≤ q → (Nw s.heap.size) q := fun _ h => h
  have hR := hX.nw
  have hP := p_nil (E := E) (H := s.heap)
  have hD := d_nil (A := Nw s.heap.size)
  refine lv_iload_n hx hb dJ6_copyOfRangeByte_0 rfl (lv_at hl 1 rfl) ?_
  refine lv_iload_n hx hb dJ6_copyOfRangeByte_1 rfl (lv_at hl 2 rfl) ?_
  refine tV (uS 2 (rest := []) hF hE hS (fun _ z => absurd z id) (m_cl l E s.heap.size i k hi (by omega)) (lw_S q254 q255 q10 q256) trivial hl.1 rfl dJ6_copyOfRangeByte_2 ⟨by show _ ≤ 1; omega, by show _ ≤ 200; omega⟩) ?_
  refine lv_iload_n hx hb dJ6_copyOfRangeByte_5 rfl (lv_at hl 2 rfl) ?_
  refine lv_iload_n hx hb dJ6_copyOfRangeByte_6 rfl (lv_at hl 1 rfl) ?_
  refine lv_isub hx hb dJ6_copyOfRangeByte_7 ?_
  refine w_to (nI (k - i)) (pk_sub (by omega)) ?_
  refine lv_istore_n (lv' := [(3, .int (nI (k - i))), (0, .ref v), (1, .int (nI i)), (2, .int (nI k))]) hx hb dJ6_copyOfRangeByte_8 rfl hl (by decide) rfl (fun ls hl => ?_)
  refine lv_iload_n hx hb dJ6_copyOfRangeByte_9 rfl (lv_at hl 0 rfl) ?_
  refine r_new (cX := eB E) (atype := .byte) hF hE q32 (hE.1.2 0 _ rfl).2 rfl hP hD hS hA (N' := (k - i)) (by omega) (by decide) (by show _ ≤ 1; omega) (by show _ ≤ 200; omega) dJ6_copyOfRangeByte_10 (fun q H_1 hq_q hP hD hS hz_1 hk_1 => ?_)
  have hP : va_P E.1 vwCl [(q, .inl (eB E, (k - i), .inl (fun _ => 0)))] H_1 := hP
  have hD : va_D (Nw s.heap.size) [(q, .inl (eB E, (k - i), .inl (fun _ => 0)))] := hD
  refine lv_astore (lv' := [(4, .ref q), (3, .int (nI (k - i))), (0, .ref v), (1, .int (nI i)), (2, .int (nI k))]) hx hb dJ6_copyOfRangeByte_12 hl (by decide) rfl (fun ls hl => ?_)
  refine lv_aload_n hx hb dJ6_copyOfRangeByte_14 rfl (lv_at hl 2 rfl) ?_
  refine lv_iload_n hx hb dJ6_copyOfRangeByte_15 rfl (lv_at hl 3 rfl) ?_
  refine lv_aload hx hb dJ6_copyOfRangeByte_16 (lv_at hl 0 rfl) ?_
  refine lv_iconst (v := nI 0) hx hb dJ6_copyOfRangeByte_18 (by decide) ?_
  refine lv_aload_n hx hb dJ6_copyOfRangeByte_19 rfl (lv_at hl 2 rfl) ?_
  refine r_len hF hE 0 rfl (hR.at hS (fun _ z => z)) dJ6_copyOfRangeByte_20 ?_
  refine lv_iload_n hx hb dJ6_copyOfRangeByte_21 rfl (lv_at hl 3 rfl) ?_
  refine lv_isub hx hb dJ6_copyOfRangeByte_22 ?_
  refine w_to (nI (n - i)) (pk_sub (by omega)) ?_
  refine lv_iload_n hx hb dJ6_copyOfRangeByte_23 rfl (lv_at hl 1 rfl) ?_
  refine va_mmin hx hb (by rw [hF.2.2.1]; exact hl.1.symm) hF.2.2.2.1 (hF.2.2.2.2 _ q112) (hF.2.2.2.2 _ q113) (hF.2.2.2.2 _ q5) (hF.2.2.2.2 _ q114) (Nat.le_of_ble_eq_true rfl) (Nat.le_of_ble_eq_true rfl) (by show _ ≤ 1; omega) (by show _ ≤ 200; omega) dJ6_copyOfRangeByte_24 ?_
  refine w_to (nI (k - i)) (min_nI (by omega) (by omega)) ?_
  refine r_cpy hF hE hl.1 q115 q117 q116 q11 hP hD hS hR 0 rfl (by omega) (by omega) (by omega) (by omega) (fun j hj => hf _ (by omega)) (Nat.le_of_ble_eq_true rfl) (Nat.le_of_ble_eq_true rfl) dJ6_copyOfRangeByte_27 (fun H_9 locs_9 hP hD hS => ?_)
  have hP : va_P E.1 vwCl [(q, .inl (eB E, (k - i), .inl (va_cpy f (fun _ => 0) i 0 (k - i))))] H_9 := hP
  have hD : va_D (Nw s.heap.size) [(q, .inl (eB E, (k - i), .inl (va_cpy f (fun _ => 0) i 0 (k - i))))] := hD
  refine lv_aload hx hb dJ6_copyOfRangeByte_30 (lv_at hl 0 rfl) ?_
  exact z_QR hF hr hlk (Or.inr ⟨_, rfl⟩) hS ⟨_, hP, by rw [hq_q]; exact Nat.le_refl _, fun j hj => by rw [pk_cpy_in (by omega) (by omega), Nat.sub_zero]⟩ (by omega) (by omega) dJ6_copyOfRangeByte_32
set_option maxHeartbeats 4000000 in
/-- copyOfRange -/
theorem m_cor (l : Launch) (E : EvT) (sz : Nat) (v n i k : Nat) (f : Nat → Int32) (hi : i ≤ k) (hk : k ≤ n) (hn : n ≤ 200) (hne : ¬ (i = 0 ∧ k = n)) (hf : ∀ j, j < n → fits .byte (.int (f j)) = true) : Met l yJ6_copyOfRange (ws_ yJ6_copyOfRange cJ6_copyOfRange 3 (some (.array .byte))) ({ frames := 2, cells := 1, slots := 200, locals := 84 }) (PcE [.ref v, .int (nI i), .int (nI k)] E (Nw sz) sz (fun H => RA (eB E) No H v n f)) (QR (fun v1 H1 => ∃ g : Nat → Int32, va_P E.1 vwCl [(v1, .inl (eB E, k - i, .inl g))] H1 ∧ sz ≤ v1 ∧ ∀ j, j < k - i → g j = f (i + j)) (Nw sz)) 1 200 (Nw sz) := by
  refine ofE RJ6 rfl (by decide) (Nat.le_of_ble_eq_true rfl) ?_
  intro pp ee s mm bw me cd ls hF hr hlk hnm hsz hE hX hl
  subst hsz
  have hx := hF.1
  have hb := hF.2.1
  have hS : va_S (Nw s.heap.size) s.heap s.heap [] := va_S.rf
  have hl : lv_has ls 3 [(0, .ref v), (1, .int (nI i)), (2, .int (nI k))] := hl
  have hA : ∀ q, s.heap.size ≤ q → (Nw s.heap.size) q := fun _ h => h
  refine lv_iload_n hx hb dJ6_copyOfRange_0 rfl (lv_at hl 1 rfl) ?_
  refine lv_if_ne (tgt := 10) hx hb dJ6_copyOfRange_1 (by decide) (fun c_1 => ?_) (fun c_1 => ?_)
  · skip
    refine lv_aload_n hx hb dJ6_copyOfRange_10 rfl (lv_at hl 0 rfl) ?_
    refine lv_iload_n hx hb dJ6_copyOfRange_11 rfl (lv_at hl 1 rfl) ?_
    refine lv_iload_n hx hb dJ6_copyOfRange_12 rfl (lv_at hl 2 rfl) ?_
    refine tQR (uS 3 (rest := []) hF hE hS (fun q z => hA q (Nat.le_trans hS.1 z)) (m_corb l E s.heap.size v n i k f hi hk hn hf) (lw_S q251 q252 q10 q253) hX hl.1 rfl dJ6_copyOfRange_13 ⟨by show _ ≤ 1; omega, by show _ ≤ 200; omega⟩) hS (fun q z => hA q (Nat.le_trans hS.1 z)) (fun v1 H_2 locs_2 hB hz_2 hk_2 hSn => ?_)
    have hS := hSn
    exact z_QR hF hr hlk (Or.inr ⟨_, rfl⟩) hS hB (by omega) (by omega) dJ6_copyOfRange_16
  · skip
    refine lv_iload_n hx hb dJ6_copyOfRange_4 rfl (lv_at hl 2 rfl) ?_
    refine lv_aload_n hx hb dJ6_copyOfRange_5 rfl (lv_at hl 0 rfl) ?_
    refine r_len hF hE 0 rfl hX dJ6_copyOfRange_6 ?_
    refine lv_icmp_eq (tgt := 17) hx hb dJ6_copyOfRange_7 (by decide) (fun c_3 => absurd c_3 (fun z => hne ⟨(nI_z (by omega)).mp c_1, (nI_eq (by omega) (by omega)).mp z⟩)) (fun c_3 => ?_)
    refine lv_aload_n hx hb dJ6_copyOfRange_10 rfl (lv_at hl 0 rfl) ?_
    refine lv_iload_n hx hb dJ6_copyOfRange_11 rfl (lv_at hl 1 rfl) ?_
    refine lv_iload_n hx hb dJ6_copyOfRange_12 rfl (lv_at hl 2 rfl) ?_
    refine tQR (uS 3 (rest := []) hF hE hS (fun q z => hA q (Nat.le_trans hS.1 z)) (m_corb l E s.heap.size v n i k f hi hk hn hf) (lw_S q251 q252 q10 q253) hX hl.1 rfl dJ6_copyOfRange_13 ⟨by show _ ≤ 1; omega, by show _ ≤ 200; omega⟩) hS (fun q z => hA q (Nat.le_trans hS.1 z)) (fun v1 H_4 locs_4 hB hz_4 hk_4 hSn => ?_)
    have hS := hSn
    exact z_QR hF hr hlk (Or.inr ⟨_, rfl⟩) hS hB (by omega) (by omega) dJ6_copyOfRange_16
set_option maxHeartbeats 4000000 in
/-- copyOfRange -/
theorem m_cor0 (l : Launch) (E : EvT) (sz : Nat) (v n k : Nat) (f : Nat → Int32) (hk : k ≤ n) (hn : n ≤ 200) (hf : ∀ j, j < n → fits .byte (.int (f j)) = true) : Met l yJ6_copyOfRange (ws_ yJ6_copyOfRange cJ6_copyOfRange 3 (some (.array .byte))) ({ frames := 2, cells := 1, slots := 200, locals := 84 }) (PcE [.ref v, .int (nI 0), .int (nI k)] E (Nw sz) sz (fun H => va_P E.1 vwCl [(v, .inl (eB E, n, .inl f))] H)) (QR (fun v1 H1 => ∃ g : Nat → Int32, va_P E.1 vwCl [(v1, .inl (eB E, k, .inl g))] H1 ∧ sz ≤ v1 ∧ ∀ j, j < k → g j = f j) (Nw sz)) 1 200 (Nw sz) := by
  refine ofE RJ6 rfl (by decide) (Nat.le_of_ble_eq_true rfl) ?_
  intro pp ee s mm bw me cd ls hF hr hlk hnm hsz hE hX hl
  subst hsz
  have hx := hF.1
  have hb := hF.2.1
  have hS : va_S (Nw s.heap.size) s.heap s.heap [] := va_S.rf
  have hl : lv_has ls 3 [(0, .ref v), (1, .int (nI 0)), (2, .int (nI k))] := hl
  have hA : ∀ q, s.heap.size ≤ q → (Nw s.heap.size) q := fun _ h => h
  have hR : RA (eB E) No s.heap v n f := RA.of hX 0 rfl id
  refine lv_iload_n hx hb dJ6_copyOfRange_0 rfl (lv_at hl 1 rfl) ?_
  refine lv_if_ne (tgt := 10) hx hb dJ6_copyOfRange_1 (by decide) (fun c_1 => absurd nI_0 c_1) (fun c_1 => ?_)
  refine lv_iload_n hx hb dJ6_copyOfRange_4 rfl (lv_at hl 2 rfl) ?_
  refine lv_aload_n hx hb dJ6_copyOfRange_5 rfl (lv_at hl 0 rfl) ?_
  refine r_len hF hE 0 rfl hR dJ6_copyOfRange_6 ?_
  refine lv_icmp_eq (tgt := 17) hx hb dJ6_copyOfRange_7 (by decide) (fun c_2 => ?_) (fun c_2 => ?_)
  · skip
    have hkn : k = n := (nI_eq (by omega) (by omega)).mp c_2
    subst hkn
    refine lv_aload_n hx hb dJ6_copyOfRange_17 rfl (lv_at hl 0 rfl) ?_
    refine r_cln hF hE hl.1 q105 q106 q107 q108 q109 hX hf (Nat.le_of_ble_eq_true rfl) (Nat.le_of_ble_eq_true rfl) (by show _ ≤ 1; omega) (by show _ ≤ 200; omega) dJ6_copyOfRange_18 (fun q H_5 hP hq hS => ?_)
    refine r_castB hF hE q111 hP 0 rfl dJ6_copyOfRange_21 ?_
    exact z_QR hF hr hlk (Or.inr ⟨_, rfl⟩) hS ⟨f, hP, hq, fun _ _ => rfl⟩ (by omega) (by omega) dJ6_copyOfRange_24
  · skip
    refine lv_aload_n hx hb dJ6_copyOfRange_10 rfl (lv_at hl 0 rfl) ?_
    refine lv_iload_n hx hb dJ6_copyOfRange_11 rfl (lv_at hl 1 rfl) ?_
    refine lv_iload_n hx hb dJ6_copyOfRange_12 rfl (lv_at hl 2 rfl) ?_
    refine tQR (uS 3 (rest := []) hF hE hS (fun q z => hA q (Nat.le_trans hS.1 z)) (m_corb l E s.heap.size v n 0 k f (Nat.zero_le _) hk hn hf) (lw_S q251 q252 q10 q253) hR hl.1 rfl dJ6_copyOfRange_13 ⟨by show _ ≤ 1; omega, by show _ ≤ 200; omega⟩) hS (fun q z => hA q (Nat.le_trans hS.1 z)) (fun v1 H_3 locs_3 hB hz_3 hk_3 hSn => ?_)
    obtain ⟨g, hg, hq, hgf⟩ := hB
    have hS := hSn
    exact z_QR hF hr hlk (Or.inr ⟨_, rfl⟩) hS ⟨g, hg, hq, fun j hj => (hgf j hj).trans (by rw [Nat.zero_add])⟩ (by omega) (by omega) dJ6_copyOfRange_16
set_option maxHeartbeats 4000000 in
/-- init_5 -/
theorem m_init5 (l : Launch) (E : EvT) (sz : Nat) (o v : Nat) : Met l yJ0_init_5 (ws_ yJ0_init_5 cJ0_init_5 3 none) ({ frames := 1, cells := 0, slots := 0, locals := 12 }) (PcE [.ref o, .ref v, .int (nI 0)] E (Ad o sz) sz (fun H => va_P E.1 vwCl [(o, .inr (0, [.null, .int 0, .int 0, .int 0]))] H)) (QW (fun H1 => va_P E.1 vwCl [(o, .inr (0, [.ref v, .int 0, .int 0, .int 0]))] H1) (Ad o sz)) 0 0 (Ad o sz) := by
  refine ofE RJ0 rfl (by decide) (Nat.le_of_ble_eq_true rfl) ?_
  intro pp ee s mm bw me cd ls hF hr hlk hnm hsz hE hX hl
  subst hsz
  have hx := hF.1
  have hb := hF.2.1
  have hS : va_S (Ad o s.heap.size) s.heap s.heap [] := va_S.rf
  have hl : lv_has ls 3 [(0, .ref o), (1, .ref v), (2, .int (nI 0))] := hl
  have hP := hX
  have hD := d_one (A := Ad o s.heap.size) (a := o) (e := .inr (0, [.null, .int 0, .int 0, .int 0])) (Or.inl rfl)
  have hP : va_P E.1 vwCl [(o, .inr (0, [.null, .int 0, .int 0, .int 0]))] s.heap := hP
  have hD : va_D (Ad o s.heap.size) [(o, .inr (0, [.null, .int 0, .int 0, .int 0]))] := hD
  refine lv_aload_n hx hb dJ0_init_5_0 rfl (lv_at hl 0 rfl) ?_
  refine W.objInit hx hb hF.2.2.2.1 (hF.2.2.2.2 _ q233) (hF.2.2.2.2 _ q22) (hF.2.2.2.2 _ q23) rfl (by rw [hF.2.2.1]; exact hl.1) rfl dJ0_init_5_1 (Nat.le_of_ble_eq_true rfl) (Nat.le_of_ble_eq_true rfl) ?_
  refine W.eq (g2 := F0 mm 4 ls []) rfl ?_
  refine lv_aload_n hx hb dJ0_init_5_4 rfl (lv_at hl 0 rfl) ?_
  refine lv_aload_n hx hb dJ0_init_5_5 rfl (lv_at hl 1 rfl) ?_
  refine va_putF (D := E.1) (cl := vwCl) (ci := 0) (v := .ref v) (ty := (.array .byte)) (C := RJ0) (T := TJ0) (N := 4) hx hb hF.2.2.2.2 in_J0 tyJ0 tyJ0_ok nmJ0 hF.2.2.2.1 hE.1 hP hD hS 0 rfl rfl 0 (by decide) (hF.2.2.2.2 _ q270) (fun _ h9 => h9) rfl hnm rfl (by decide +kernel) rfl rfl (Nat.le_of_ble_eq_true rfl) dJ0_init_5_6 (fun H_1 locs_1 hP hD hS => ?_)
  have hP : va_P E.1 vwCl [(o, .inr (0, [.ref v, .int 0, .int 0, .int 0]))] H_1 := hP
  have hD : va_D (Ad o s.heap.size) [(o, .inr (0, [.ref v, .int 0, .int 0, .int 0]))] := hD
  refine lv_aload_n hx hb dJ0_init_5_9 rfl (lv_at hl 0 rfl) ?_
  refine lv_iload_n hx hb dJ0_init_5_10 rfl (lv_at hl 2 rfl) ?_
  refine w_to (0) nI_0 ?_
  refine va_putF (D := E.1) (cl := vwCl) (ci := 0) (v := .int 0) (ty := .byte) (C := RJ0) (T := TJ0) (N := 4) hx hb hF.2.2.2.2 in_J0 tyJ0 tyJ0_ok nmJ0 hF.2.2.2.1 hE.1 hP hD hS 0 rfl rfl 1 (by decide) (hF.2.2.2.2 _ q271) (fun _ h9 => h9) rfl hnm rfl (by decide +kernel) rfl rfl (Nat.le_of_ble_eq_true rfl) dJ0_init_5_11 (fun H_2 locs_2 hP hD hS => ?_)
  have hP : va_P E.1 vwCl [(o, .inr (0, [.ref v, .int 0, .int 0, .int 0]))] H_2 := hP
  have hD : va_D (Ad o s.heap.size) [(o, .inr (0, [.ref v, .int 0, .int 0, .int 0]))] := hD
  exact z_QW hF hr hlk hS hP (by omega) (by omega) dJ0_init_5_14
set_option maxHeartbeats 4000000 in
/-- newString -/
theorem m_news (l : Launch) (E : EvT) (sz : Nat) (v : Nat) (t : List Nat) (hT : Tx t) (i n : Nat) (hi : i + n ≤ t.length) (hne : n ≠ 0 → ¬ (i = 0 ∧ n = t.length)) : Met l yJ2_newString (ws_ yJ2_newString cJ2_newString 3 (some (.object "java/lang/String"))) ({ frames := 3, cells := 2, slots := 204, locals := 106 }) (PcE [.ref v, .int (nI i), .int (nI n)] E (Nw sz) sz (fun H => RA (eB E) No H v t.length (tb t))) (QR (fun r1 H1 => Str E No H1 r1 ((t.drop i).take n)) (Nw sz)) 2 204 (Nw sz) := by
  refine ofE RJ2 rfl (by decide) (Nat.le_of_ble_eq_true rfl) ?_
  intro pp ee s mm bw me cd ls hF hr hlk hnm hsz hE hX hl
  subst hsz
  have hx := hF.1
  have hb := hF.2.1
  have hS : va_S (Nw s.heap.size) s.heap s.heap [] := va_S.rf
  have hl : lv_has ls 3 [(0, .ref v), (1, .int (nI i)), (2, .int (nI n))] := hl
  have hA : ∀ q, s.heap.size ≤ q → (Nw s.heap.size) q := fun _ h => h
  have h64 := hT.len
  have hR := hX.nw
  have hT2 : Tx ((t.drop i).take n) := ⟨by rw [List.length_take, List.length_drop]; omega, fun c hc => hT.2 c (List.mem_of_mem_drop (List.mem_of_mem_take hc))⟩
  have hlen : ((t.drop i).take n).length = n := by rw [List.length_take, List.length_drop]; omega
  refine lv_iload_n hx hb dJ2_newString_0 rfl (lv_at hl 2 rfl) ?_
  refine lv_if_ne (tgt := 7) hx hb dJ2_newString_1 (by decide) (fun c_1 => ?_) (fun c_1 => ?_)
  · skip
    have hn0 : n ≠ 0 := fun z => c_1 (by rw [z]; exact nI_0)
    have hP := p_nil (E := E) (H := s.heap)
    have hD := d_nil (A := Nw s.heap.size)
    refine va_new (D := E.1) (cl := vwCl) (ci := 0) (fs := [.null, .int 0, .int 0, .int 0]) (C := RJ0) (T := TJ0) (N := 4) hx hb hF.2.2.2.2 in_J0 tyJ0 tyJ0_ok hF.2.2.2.1 (hF.2.2.2.2 _ q500) (hF.2.2.2.2 _ q226) (hF.2.2.2.2 _ q4) hE.1 hP hD hS hA rfl (fun j hj => by rcases (show j = 0 ∨ j = 1 ∨ j = 2 ∨ j = 3 by omega) with rfl | rfl | rfl | rfl <;> rfl) (by show _ ≤ 2; omega) (by show _ ≤ 204; omega) dJ2_newString_7 (fun o H_2 hP hD hS => ?_)
    have hP : va_P E.1 vwCl [(o, .inr (0, [.null, .int 0, .int 0, .int 0]))] H_2 := hP
    have hD : va_D (Nw s.heap.size) [(o, .inr (0, [.null, .int 0, .int 0, .int 0]))] := hD
    refine lv_dup hx hb dJ2_newString_10 rfl ?_
    refine lv_aload_n hx hb dJ2_newString_11 rfl (lv_at hl 0 rfl) ?_
    refine lv_iload_n hx hb dJ2_newString_12 rfl (lv_at hl 1 rfl) ?_
    refine lv_iload_n hx hb dJ2_newString_13 rfl (lv_at hl 1 rfl) ?_
    refine lv_iload_n hx hb dJ2_newString_14 rfl (lv_at hl 2 rfl) ?_
    refine lv_iadd hx hb dJ2_newString_15 ?_
    refine w_to (nI (i + n)) (nI_add _ _) ?_
    refine tQR (uS 3 (rest := [.ref o, .ref o]) hF hE hS (fun q z => hA q (Nat.le_trans hS.1 z)) (m_cor l E H_2.size v t.length i (i + n) (tb t) (by omega) hi (by omega) (fun z => hne hn0 ⟨z.1, by omega⟩) (fun j _ => c_fb _ (hT.at j))) (lw_S q501 q249 q10 q250) (hR.at hS (fun _ z => z.elim)) hl.1 rfl dJ2_newString_16 ⟨by show _ ≤ 2; omega, by show _ ≤ 204; omega⟩) hS (fun q z => hA q (Nat.le_trans hS.1 z)) (fun v1 H_3 locs_3 hB hz_3 hk_3 hSn => ?_)
    obtain ⟨g, hg, hq, hgf⟩ := hB
    obtain ⟨hP, hD⟩ := j_new hP hD hk_3 (fun q z => hA q (Nat.le_trans hS.1 z)) hg (d_one hq)
    have hS := hSn
    have hP : va_P E.1 vwCl [(o, .inr (0, [.null, .int 0, .int 0, .int 0])), (v1, .inl (eB E, (i + n - i), .inl g))] H_3 := hP
    have hD : va_D (Nw s.heap.size) [(o, .inr (0, [.null, .int 0, .int 0, .int 0])), (v1, .inl (eB E, (i + n - i), .inl g))] := hD
    refine lv_iconst (v := nI 0) hx hb dJ2_newString_19 (by decide) ?_
    have hov : o ≠ v1 := d_ne hD 0 1 rfl rfl (by decide)
    refine tQW (uI 2 (rest := [.ref o]) hF hE hS (adA hD hS hA 0 rfl) (m_init5 l E H_3.size o v1) q4 q502 q503 q504 (hP.sub [0] rfl) hl.1 rfl dJ2_newString_20 ⟨by show _ ≤ 2; omega, by show _ ≤ 204; omega⟩) hS (adA hD hS hA 0 rfl) (fun H_4 locs_4 hB hz_4 hk_4 hSn => ?_)
    obtain ⟨hP, hD⟩ := j_set hP hD 0 rfl hk_4 hB
    have hS := hSn
    have hP : va_P E.1 vwCl [(o, .inr (0, [.ref v1, .int 0, .int 0, .int 0])), (v1, .inl (eB E, (i + n - i), .inl g))] H_4 := hP
    have hD : va_D (Nw s.heap.size) [(o, .inr (0, [.ref v1, .int 0, .int 0, .int 0])), (v1, .inl (eB E, (i + n - i), .inl g))] := hD
    exact z_QR hF hr hlk (Or.inl ⟨_, rfl⟩) hS ⟨hT2, v1, SO.of hP 0 rfl id, by rw [hlen]; exact (RA.of (by rw [Nat.add_sub_cancel_left] at hP; exact hP) 1 rfl id).congr (fun j hj => (hgf j (by omega)).trans (by unfold tb; rw [List.getD_eq_getElem?_getD, List.getD_eq_getElem?_getD, List.getElem?_take_of_lt hj, List.getElem?_drop]))⟩ (by omega) (by omega) dJ2_newString_23
  · skip
    have hn0 : n = 0 := (nI_z (by omega)).mp c_1
    refine va_ldcS (own := RJ2) (index := 151) (tx := "") hx hb hF.2.2.2.1 hE.2.2.2.2.1.2 dJ2_newString_4 ?_
    exact z_QR hF hr hlk (Or.inl ⟨_, rfl⟩) hS (by rw [hn0, List.take_zero]; exact hE.2.2.2.2.2.2.no) (by omega) (by omega) dJ2_newString_6
set_option maxHeartbeats 4000000 in
/-- substring -/
theorem m_subs (l : Launch) (E : EvT) (sz : Nat) (a : Nat) (t : List Nat) (i k : Nat) (hi : i ≤ k) (hk : k ≤ t.length) : Met l yJ0_substring (ws_ yJ0_substring cJ0_substring 5 (some (.object "java/lang/String"))) ({ frames := 4, cells := 2, slots := 204, locals := 128 }) (PcE [.ref a, .int (nI i), .int (nI k)] E (Nw sz) sz (fun H => Str E No H a t)) (QR (fun r1 H1 => Str E No H1 r1 ((t.drop i).take (k - i))) (Nw sz)) 2 204 (Nw sz) := by
  refine ofE RJ0 rfl (by decide) (Nat.le_of_ble_eq_true rfl) ?_
  intro pp ee s mm bw me cd ls hF hr hlk hnm hsz hE hX hl
  subst hsz
  have hx := hF.1
  have hb := hF.2.1
  have hS : va_S (Nw s.heap.size) s.heap s.heap [] := va_S.rf
  have hl : lv_has ls 5 [(0, .ref a), (1, .int (nI i)), (2, .int (nI k))] := hl
  have hA : ∀ q, s.heap.size ≤ q → (Nw s.heap.size) q := fun _ h => h
  have hX0 := hX
  obtain ⟨hT, v, hO, hR⟩ := hX
  have h64 := hT.len
  refine lv_aload_n hx hb dJ0_substring_0 rfl (lv_at hl 0 rfl) ?_
  refine tI (v := nI t.length) (uV 0 (rest := []) hF hE hS (fun _ z => absurd z id) (m_len l E s.heap.size a t) (lw_V q494 q38 q39 q4 q40) (so_recv hE hO) hX0 hl.1 rfl dJ0_substring_1 ⟨by show _ ≤ 2; omega, by show _ ≤ 204; omega⟩) ?_
  refine lv_istore_n (lv' := [(3, .int (nI t.length)), (0, .ref a), (1, .int (nI i)), (2, .int (nI k))]) hx hb dJ0_substring_4 rfl hl (by decide) rfl (fun ls hl => ?_)
  refine lv_iload_n hx hb dJ0_substring_5 rfl (lv_at hl 2 rfl) ?_
  refine lv_iload_n hx hb dJ0_substring_6 rfl (lv_at hl 3 rfl) ?_
  refine lv_iload_n hx hb dJ0_substring_7 rfl (lv_at hl 0 rfl) ?_
  refine tV (uS 3 (rest := []) hF hE hS (fun _ z => absurd z id) (m_J0_cb l E s.heap.size i k t.length hi hk (by omega)) (lw_S q495 q134 q4 q135) trivial hl.1 rfl dJ0_substring_8 ⟨by show _ ≤ 2; omega, by show _ ≤ 204; omega⟩) ?_
  refine lv_iload_n hx hb dJ0_substring_11 rfl (lv_at hl 2 rfl) ?_
  refine lv_if_ne (tgt := 22) hx hb dJ0_substring_12 (by decide) (fun c_1 => ?_) (fun c_1 => ?_)
  · skip
    have hi0 : i ≠ 0 := fun z => c_1 (by rw [z]; exact nI_0)
    refine lv_iload_n hx hb dJ0_substring_22 rfl (lv_at hl 3 rfl) ?_
    refine lv_iload_n hx hb dJ0_substring_23 rfl (lv_at hl 2 rfl) ?_
    refine lv_isub hx hb dJ0_substring_24 ?_
    refine w_to (nI (k - i)) (pk_sub (by omega)) ?_
    refine lv_istore (lv' := [(4, .int (nI (k - i))), (3, .int (nI t.length)), (0, .ref a), (1, .int (nI i)), (2, .int (nI k))]) hx hb dJ0_substring_25 hl (by decide) rfl (fun ls hl => ?_)
    refine lv_aload_n hx hb dJ0_substring_27 rfl (lv_at hl 2 rfl) ?_
    refine tI (v := nI 1) (uV 0 (rest := []) hF hE hS (fun _ z => absurd z id) (m_isL l E s.heap.size a v) (lw_V q325 q326 q327 q4 q328) (so_recv hE hO) hO hl.1 rfl dJ0_substring_28 ⟨by show _ ≤ 2; omega, by show _ ≤ 204; omega⟩) ?_
    refine lv_if_eq (tgt := 47) hx hb dJ0_substring_31 (by decide) (fun c_2 => absurd c_2 (by decide)) (fun c_2 => ?_)
    refine lv_aload_n hx hb dJ0_substring_34 rfl (lv_at hl 2 rfl) ?_
    refine r_val hF hE q270 hO dJ0_substring_35 ?_
    refine lv_iload_n hx hb dJ0_substring_38 rfl (lv_at hl 3 rfl) ?_
    refine lv_iload hx hb dJ0_substring_39 (lv_at hl 0 rfl) ?_
    refine tQR (uS 3 (rest := []) hF hE hS (fun q z => hA q (Nat.le_trans hS.1 z)) (m_news l E s.heap.size v t hT i (k - i) (by omega) (fun _ z => hi0 z.1)) (lw_S q496 q497 q6 q498) hR hl.1 rfl dJ0_substring_41 ⟨by show _ ≤ 2; omega, by show _ ≤ 204; omega⟩) hS (fun q z => hA q (Nat.le_trans hS.1 z)) (fun r1 H_3 locs_3 hB hz_3 hk_3 hSn => ?_)
    have hS := hSn
    refine lv_goto (tgt := 57) hx hb dJ0_substring_44 (by decide) ?_
    exact z_QR hF hr hlk (Or.inl ⟨_, rfl⟩) hS hB (by omega) (by omega) dJ0_substring_57
  · skip
    have hi0 : i = 0 := (nI_z (by omega)).mp c_1
    refine lv_iload_n hx hb dJ0_substring_15 rfl (lv_at hl 3 rfl) ?_
    refine lv_iload_n hx hb dJ0_substring_16 rfl (lv_at hl 0 rfl) ?_
    refine lv_icmp_ne (tgt := 22) hx hb dJ0_substring_17 (by decide) (fun c_4 => ?_) (fun c_4 => ?_)
    · skip
      have hk0 : k ≠ t.length := fun z => c_4 (by rw [z])
      refine lv_iload_n hx hb dJ0_substring_22 rfl (lv_at hl 3 rfl) ?_
      refine lv_iload_n hx hb dJ0_substring_23 rfl (lv_at hl 2 rfl) ?_
      refine lv_isub hx hb dJ0_substring_24 ?_
      refine w_to (nI (k - i)) (pk_sub (by omega)) ?_
      refine lv_istore (lv' := [(4, .int (nI (k - i))), (3, .int (nI t.length)), (0, .ref a), (1, .int (nI i)), (2, .int (nI k))]) hx hb dJ0_substring_25 hl (by decide) rfl (fun ls hl => ?_)
      refine lv_aload_n hx hb dJ0_substring_27 rfl (lv_at hl 2 rfl) ?_
      refine tI (v := nI 1) (uV 0 (rest := []) hF hE hS (fun _ z => absurd z id) (m_isL l E s.heap.size a v) (lw_V q325 q326 q327 q4 q328) (so_recv hE hO) hO hl.1 rfl dJ0_substring_28 ⟨by show _ ≤ 2; omega, by show _ ≤ 204; omega⟩) ?_
      refine lv_if_eq (tgt := 47) hx hb dJ0_substring_31 (by decide) (fun c_5 => absurd c_5 (by decide)) (fun c_5 => ?_)
      refine lv_aload_n hx hb dJ0_substring_34 rfl (lv_at hl 2 rfl) ?_
      refine r_val hF hE q270 hO dJ0_substring_35 ?_
      refine lv_iload_n hx hb dJ0_substring_38 rfl (lv_at hl 3 rfl) ?_
      refine lv_iload hx hb dJ0_substring_39 (lv_at hl 0 rfl) ?_
      refine tQR (uS 3 (rest := []) hF hE hS (fun q z => hA q (Nat.le_trans hS.1 z)) (m_news l E s.heap.size v t hT i (k - i) (by omega) (fun _ z => hk0 (by omega))) (lw_S q496 q497 q6 q498) hR hl.1 rfl dJ0_substring_41 ⟨by show _ ≤ 2; omega, by show _ ≤ 204; omega⟩) hS (fun q z => hA q (Nat.le_trans hS.1 z)) (fun r1 H_6 locs_6 hB hz_6 hk_6 hSn => ?_)
      have hS := hSn
      refine lv_goto (tgt := 57) hx hb dJ0_substring_44 (by decide) ?_
      exact z_QR hF hr hlk (Or.inl ⟨_, rfl⟩) hS hB (by omega) (by omega) dJ0_substring_57
    · skip
      have hk0 : k = t.length := (nI_eq (by omega) (by omega)).mp c_4
      refine lv_aload_n hx hb dJ0_substring_20 rfl (lv_at hl 1 rfl) ?_
      exact z_QR hF hr hlk (Or.inl ⟨_, rfl⟩) hS (by rw [hi0, hk0, List.drop_zero, Nat.sub_zero, List.take_length]; exact hX0) (by omega) (by omega) dJ0_substring_21
set_option maxHeartbeats 4000000 in
/-- subSequence -/
theorem m_subq (l : Launch) (E : EvT) (sz : Nat) (a : Nat) (t : List Nat) (i k : Nat) (hi : i ≤ k) (hk : k ≤ t.length) : Met l yJ0_subSequence (ws_ yJ0_subSequence cJ0_subSequence 3 (some (.object "java/lang/CharSequence"))) ({ frames := 5, cells := 2, slots := 204, locals := 152 }) (PcE [.ref a, .int (nI i), .int (nI k)] E (Nw sz) sz (fun H => Str E No H a t)) (QR (fun r1 H1 => Str E No H1 r1 ((t.drop i).take (k - i))) (Nw sz)) 2 204 (Nw sz) := by
  refine ofE RJ0 rfl (by decide) (Nat.le_of_ble_eq_true rfl) ?_
  intro pp ee s mm bw me cd ls hF hr hlk hnm hsz hE hX hl
  subst hsz
  have hx := hF.1
  have hb := hF.2.1
  have hS : va_S (Nw s.heap.size) s.heap s.heap [] := va_S.rf
  have hl : lv_has ls 3 [(0, .ref a), (1, .int (nI i)), (2, .int (nI k))] := hl
  have hA : ∀ q, s.heap.size ≤ q → (Nw s.heap.size) q := fun _ h => h
  refine lv_aload_n hx hb dJ0_subSequence_0 rfl (lv_at hl 0 rfl) ?_
  refine lv_iload_n hx hb dJ0_subSequence_1 rfl (lv_at hl 1 rfl) ?_
  refine lv_iload_n hx hb dJ0_subSequence_2 rfl (lv_at hl 2 rfl) ?_
  refine tQR (uV 2 (rest := []) hF hE hS (fun q z => hA q (Nat.le_trans hS.1 z)) (m_subs l E s.heap.size a t i k hi hk) (lw_V q490 q491 q492 q4 q493) (hX.recv hE) hX hl.1 rfl dJ0_subSequence_3 ⟨by show _ ≤ 2; omega, by show _ ≤ 204; omega⟩) hS (fun q z => hA q (Nat.le_trans hS.1 z)) (fun r1 H_1 locs_1 hB hz_1 hk_1 hSn => ?_)
  have hS := hSn
  exact z_QR hF hr hlk (Or.inl ⟨_, rfl⟩) hS hB (by omega) (by omega) dJ0_subSequence_6
end
section
/-! char arrays, and Strings out of them -/
set_option maxRecDepth 100000

set_option maxHeartbeats 4000000 in
/-- inflate_2 -/
theorem m_infl (l : Launch) (E : EvT) (sz : Nat) (v q : Nat) (t : List Nat) (hT : Tx t) (g0 : Nat → Int32) : Met l yJ2_inflate_2 (ws_ yJ2_inflate_2 cJ2_inflate_2 6 none) ({ frames := 0, cells := 0, slots := 0, locals := 0 }) (PcE [.ref v, .int (nI 0), .ref q, .int (nI 0), .int (nI t.length)] E (Ad q sz) sz (fun H => va_P E.1 vwCl [(q, .inl (eC E, t.length, .inl g0))] H ∧ RA (eB E) (Ad q sz) H v t.length (tb t))) (QW (fun H1 => ∃ g, va_P E.1 vwCl [(q, .inl (eC E, t.length, .inl g))] H1 ∧ ∀ j, j < t.length → g j = tb t j) (Ad q sz)) 0 0 (Ad q sz) := by
  refine ofE RJ2 rfl (by decide) (Nat.le_of_ble_eq_true rfl) ?_
  intro pp ee s mm bw me cd ls hF hr hlk hnm hsz hE hX hl
  subst hsz
  have hx := hF.1
  have hb := hF.2.1
  have hS : va_S (Ad q s.heap.size) s.heap s.heap [] := va_S.rf
  have hl : lv_has ls 6 [(0, .ref v), (1, .int (nI 0)), (2, .ref q), (3, .int (nI 0)), (4, .int (nI t.length))] := hl
  obtain ⟨hP, hR⟩ := hX
  have h64 := hT.len
  have hD := d_one (A := Ad q s.heap.size) (a := q) (e := .inl (eC E, t.length, .inl g0)) (Or.inl rfl)
  have hP : va_P E.1 vwCl [(q, .inl (eC E, t.length, .inl g0))] s.heap := hP
  have hD : va_D (Ad q s.heap.size) [(q, .inl (eC E, t.length, .inl g0))] := hD
  refine lv_iconst (v := nI 0) hx hb dJ2_inflate_2_0 (by decide) ?_
  refine lv_istore (lv' := [(5, .int (nI 0)), (0, .ref v), (1, .int (nI 0)), (2, .ref q), (3, .int (nI 0)), (4, .int (nI t.length))]) hx hb dJ2_inflate_2_1 hl (by decide) rfl (fun ls hl => ?_)
  have loop : ∀ (n k : Nat) (g : Nat → Int32) (H : Heap) (locs : List Loc) (ls : Array Slot), (k + n = t.length) → (va_P E.1 vwCl [(q, .inl (eC E, t.length, .inl g))] H) → (va_D (Ad q s.heap.size) [(q, .inl (eC E, t.length, .inl g))]) → (va_S (Ad q s.heap.size) s.heap H locs) → (∀ j, j < k → g j = tb t j) → lv_has ls 6 [(5, .int (nI k)), (0, .ref v), (1, .int (nI k)), (2, .ref q), (3, .int (nI k)), (4, .int (nI t.length))] → W pp l ee ({ frames := 0, cells := 0, slots := 0, locals := 0 } : Room) s mm ([.ref v, .int (nI 0), .ref q, .int (nI 0), .int (nI t.length)] : List Value).toArray bw me cd H locs 0 0 (MQ bw (QW (fun H1 => ∃ g, va_P E.1 vwCl [(q, .inl (eC E, t.length, .inl g))] H1 ∧ ∀ j, j < t.length → g j = tb t j) (Ad q s.heap.size)) ([.ref v, .int (nI 0), .ref q, .int (nI 0), .int (nI t.length)] : List Value).toArray s 0 0 (Ad q s.heap.size)) (F0 mm 3 ls []) := by
    intro n
    induction n with
    | zero =>
      intro k g H locs ls hk hP hD hS hg hl
      refine lv_iload hx hb dJ2_inflate_2_3 (lv_at hl 0 rfl) ?_
      refine lv_iload hx hb dJ2_inflate_2_5 (lv_at hl 5 rfl) ?_
      refine lv_icmp_ge (tgt := 33) hx hb dJ2_inflate_2_7 (by decide) (fun c_1 => ?_) (fun c_1 => absurd ((nI_leI (by omega) (by omega)).mpr (by omega)) c_1)
      exact z_QW hF hr hlk hS ⟨g, hP, fun j hj => hg j (by omega)⟩ (by omega) (by omega) dJ2_inflate_2_33
    | succ n ih =>
      intro k g H locs ls hk hP hD hS hg hl
      refine lv_iload hx hb dJ2_inflate_2_3 (lv_at hl 0 rfl) ?_
      refine lv_iload hx hb dJ2_inflate_2_5 (lv_at hl 5 rfl) ?_
      refine lv_icmp_ge (tgt := 33) hx hb dJ2_inflate_2_7 (by decide) (fun c_2 => absurd c_2 (fun z => absurd ((nI_leI (by omega) (by omega)).mp z) (by omega))) (fun c_2 => ?_)
      have hc := hT.at k
      refine lv_aload_n hx hb dJ2_inflate_2_10 rfl (lv_at hl 3 rfl) ?_
      refine lv_iload_n hx hb dJ2_inflate_2_11 rfl (lv_at hl 4 rfl) ?_
      refine lv_iinc (v := nI (k + 1)) (lv' := [(3, .int (nI (k + 1))), (5, .int (nI k)), (0, .ref v), (1, .int (nI k)), (2, .ref q), (4, .int (nI t.length))]) hx hb dJ2_inflate_2_12 hl (k := 4) rfl (nI_add k 1) (by decide) rfl (fun ls hl => ?_)
      refine lv_aload_n hx hb dJ2_inflate_2_15 rfl (lv_at hl 2 rfl) ?_
      refine lv_iload_n hx hb dJ2_inflate_2_16 rfl (lv_at hl 3 rfl) ?_
      refine lv_iinc (v := nI (k + 1)) (lv' := [(1, .int (nI (k + 1))), (3, .int (nI (k + 1))), (5, .int (nI k)), (0, .ref v), (2, .ref q), (4, .int (nI t.length))]) hx hb dJ2_inflate_2_17 hl (k := 3) rfl (nI_add k 1) (by decide) rfl (fun ls hl => ?_)
      refine r_bld hF hE (hR.at hS (fun _ z => z)) (by omega) (by omega) dJ2_inflate_2_20 ?_
      refine lv_sipush (v := nI 255) hx hb dJ2_inflate_2_21 (by decide) ?_
      refine lv_iand hx hb dJ2_inflate_2_24 ?_
      refine w_to (nI (t.getD k 0)) (c_255 _ hc) ?_
      refine lv_i2c (v := nI (t.getD k 0)) hx hb dJ2_inflate_2_25 (c_i2c _ hc) ?_
      refine r_cst hF hE hP hD hS 0 rfl (j := k) (by omega) (by omega) (c_vc _ hc) dJ2_inflate_2_26 (fun H_3 locs_3 hP hD hS => ?_)
      have hP : va_P E.1 vwCl [(q, .inl (eC E, t.length, .inl (upd g k (nI (t.getD k 0)))))] H_3 := hP
      have hD : va_D (Ad q s.heap.size) [(q, .inl (eC E, t.length, .inl (upd g k (nI (t.getD k 0)))))] := hD
      refine lv_iinc (v := nI (k + 1)) (lv' := [(5, .int (nI (k + 1))), (1, .int (nI (k + 1))), (3, .int (nI (k + 1))), (0, .ref v), (2, .ref q), (4, .int (nI t.length))]) hx hb dJ2_inflate_2_27 hl (k := 2) rfl (nI_add k 1) (by decide) rfl (fun ls hl => ?_)
      refine lv_goto (tgt := 3) hx hb dJ2_inflate_2_30 (by decide) ?_
      exact ih (k + 1) _ _ _ ls (by omega) hP hD hS (fun j hj => by
          by_cases hjk : j = k
          · subst hjk; exact pk_us
          · rw [pk_un hjk]; exact hg j (by omega)) (lv_sub hl [0, 3, 1, 4, 2, 5] rfl)
  exact loop t.length 0 g0 _ _ ls (by omega) hP hD hS (fun j hj => absurd hj (Nat.not_lt_zero j)) (lv_sub hl [0, 1, 2, 3, 4, 5] rfl)
set_option maxHeartbeats 4000000 in
/-- toChars -/
theorem m_toCh (l : Launch) (E : EvT) (sz : Nat) (v : Nat) (t : List Nat) (hT : Tx t) : Met l yJ2_toChars (ws_ yJ2_toChars cJ2_toChars 2 (some (.array .char))) ({ frames := 1, cells := 1, slots := 100, locals := 25 }) (PcE [.ref v] E (Nw sz) sz (fun H => RA (eB E) No H v t.length (tb t))) (QR (fun r1 H1 => ∃ g : Nat → Int32, va_P E.1 vwCl [(r1, .inl (eC E, t.length, .inl g))] H1 ∧ sz ≤ r1 ∧ ∀ j, j < t.length → g j = tb t j) (Nw sz)) 1 100 (Nw sz) := by
  refine ofE RJ2 rfl (by decide) (Nat.le_of_ble_eq_true rfl) ?_
  intro pp ee s mm bw me cd ls hF hr hlk hnm hsz hE hX hl
  subst hsz
  have hx := hF.1
  have hb := hF.2.1
  have hS : va_S (Nw s.heap.size) s.heap s.heap [] := va_S.rf
  have hl : lv_has ls 2 [(0, .ref v)] := hl
  have hA : ∀ q, s.heap.size ≤ q → (Nw s.heap.size) q := fun _ h => h
  have hR := hX.nw
  have h64 := hT.len
  have hP := p_nil (E := E) (H := s.heap)
  have hD := d_nil (A := Nw s.heap.size)
  refine lv_aload_n hx hb dJ2_toChars_0 rfl (lv_at hl 0 rfl) ?_
  refine r_len hF hE 0 rfl hX dJ2_toChars_1 ?_
  refine r_new (cX := eC E) (atype := .char) hF hE q377 (hE.1.2 1 _ rfl).2 rfl hP hD hS hA (N' := t.length) (by omega) (by decide) (by show _ ≤ 1; omega) (by show _ ≤ 100; omega) dJ2_toChars_2 (fun q H_1 hq_q hP hD hS hz_1 hk_1 => ?_)
  have hP : va_P E.1 vwCl [(q, .inl (eC E, t.length, .inl (fun _ => 0)))] H_1 := hP
  have hD : va_D (Nw s.heap.size) [(q, .inl (eC E, t.length, .inl (fun _ => 0)))] := hD
  refine lv_astore_n (lv' := [(1, .ref q), (0, .ref v)]) hx hb dJ2_toChars_4 rfl hl (by decide) rfl (fun ls hl => ?_)
  refine lv_aload_n hx hb dJ2_toChars_5 rfl (lv_at hl 1 rfl) ?_
  refine lv_iconst (v := nI 0) hx hb dJ2_toChars_6 (by decide) ?_
  refine lv_aload_n hx hb dJ2_toChars_7 rfl (lv_at hl 0 rfl) ?_
  refine lv_iconst (v := nI 0) hx hb dJ2_toChars_8 (by decide) ?_
  refine lv_aload_n hx hb dJ2_toChars_9 rfl (lv_at hl 1 rfl) ?_
  refine r_len hF hE 0 rfl (hR.at hS (fun _ z => z)) dJ2_toChars_10 ?_
  refine tQW (uS 5 (rest := []) hF hE hS (adA hD hS hA 0 rfl) (m_infl l E H_1.size v q t hT _) (lw_S q346 q347 q6 q348) ⟨hP, hR.at hS (adA hD hS hA 0 rfl)⟩ hl.1 rfl dJ2_toChars_11 ⟨by show _ ≤ 1; omega, by show _ ≤ 100; omega⟩) hS (adA hD hS hA 0 rfl) (fun H_2 locs_2 hB hz_2 hk_2 hSn => ?_)
  obtain ⟨g, hg, hgf⟩ := hB
  obtain ⟨hP, hD⟩ := j_set hP hD 0 rfl hk_2 hg
  have hS := hSn
  have hP : va_P E.1 vwCl [(q, .inl (eC E, t.length, .inl g))] H_2 := hP
  have hD : va_D (Nw s.heap.size) [(q, .inl (eC E, t.length, .inl g))] := hD
  refine lv_aload_n hx hb dJ2_toChars_14 rfl (lv_at hl 0 rfl) ?_
  exact z_QR hF hr hlk (Or.inr ⟨_, rfl⟩) hS ⟨g, hP, by rw [hq_q]; exact Nat.le_refl _, hgf⟩ (by omega) (by omega) dJ2_toChars_15
set_option maxHeartbeats 4000000 in
/-- toCharArray -/
theorem m_toCA (l : Launch) (E : EvT) (sz : Nat) (a : Nat) (t : List Nat) : Met l yJ0_toCharArray (ws_ yJ0_toCharArray cJ0_toCharArray 1 (some (.array .char))) ({ frames := 2, cells := 1, slots := 100, locals := 46 }) (PcE [.ref a] E (Nw sz) sz (fun H => Str E No H a t)) (QR (fun r1 H1 => ∃ g : Nat → Int32, va_P E.1 vwCl [(r1, .inl (eC E, t.length, .inl g))] H1 ∧ sz ≤ r1 ∧ ∀ j, j < t.length → g j = tb t j) (Nw sz)) 1 100 (Nw sz) := by
  refine ofE RJ0 rfl (by decide) (Nat.le_of_ble_eq_true rfl) ?_
  intro pp ee s mm bw me cd ls hF hr hlk hnm hsz hE hX hl
  subst hsz
  have hx := hF.1
  have hb := hF.2.1
  have hS : va_S (Nw s.heap.size) s.heap s.heap [] := va_S.rf
  have hl : lv_has ls 1 [(0, .ref a)] := hl
  have hA : ∀ q, s.heap.size ≤ q → (Nw s.heap.size) q := fun _ h => h
  obtain ⟨hT, v, hO, hR⟩ := hX
  refine lv_aload_n hx hb dJ0_toCharArray_0 rfl (lv_at hl 0 rfl) ?_
  refine tI (v := nI 1) (uV 0 (rest := []) hF hE hS (fun _ z => absurd z id) (m_isL l E s.heap.size a v) (lw_V q325 q326 q327 q4 q328) (so_recv hE hO) hO hl.1 rfl dJ0_toCharArray_1 ⟨by show _ ≤ 1; omega, by show _ ≤ 100; omega⟩) ?_
  refine lv_if_eq (tgt := 17) hx hb dJ0_toCharArray_4 (by decide) (fun c_1 => absurd c_1 (by decide)) (fun c_1 => ?_)
  refine lv_aload_n hx hb dJ0_toCharArray_7 rfl (lv_at hl 0 rfl) ?_
  refine r_val hF hE q270 hO dJ0_toCharArray_8 ?_
  refine tQR (uS 1 (rest := []) hF hE hS (fun q z => hA q (Nat.le_trans hS.1 z)) (m_toCh l E s.heap.size v t hT) (lw_S q343 q344 q6 q345) hR hl.1 rfl dJ0_toCharArray_11 ⟨by show _ ≤ 1; omega, by show _ ≤ 100; omega⟩) hS (fun q z => hA q (Nat.le_trans hS.1 z)) (fun r1 H_2 locs_2 hB hz_2 hk_2 hSn => ?_)
  have hS := hSn
  refine lv_goto (tgt := 24) hx hb dJ0_toCharArray_14 (by decide) ?_
  exact z_QR hF hr hlk (Or.inr ⟨_, rfl⟩) hS hB (by omega) (by omega) dJ0_toCharArray_24
set_option maxHeartbeats 4000000 in
/-- compress_4 -/
theorem m_cmp4 (l : Launch) (E : EvT) (sz : Nat) (v q : Nat) (t : List Nat) (hT : Tx t) (g0 : Nat → Int32) : Met l yJ4_compress_4 (ws_ yJ4_compress_4 cJ4_compress_4 7 (some .int)) ({ frames := 0, cells := 0, slots := 0, locals := 0 }) (PcE [.ref v, .int (nI 0), .ref q, .int (nI 0), .int (nI t.length)] E (Ad q sz) sz (fun H => va_P E.1 vwCl [(q, .inl (eB E, t.length, .inl g0))] H ∧ RA (eC E) (Ad q sz) H v t.length (tb t))) (QJ (nI t.length) (fun H1 => ∃ g, va_P E.1 vwCl [(q, .inl (eB E, t.length, .inl g))] H1 ∧ ∀ j, j < t.length → g j = tb t j) (Ad q sz)) 0 0 (Ad q sz) := by
  refine ofE RJ4 rfl (by decide) (Nat.le_of_ble_eq_true rfl) ?_
  intro pp ee s mm bw me cd ls hF hr hlk hnm hsz hE hX hl
  subst hsz
  have hx := hF.1
  have hb := hF.2.1
  have hS : va_S (Ad q s.heap.size) s.heap s.heap [] := va_S.rf
  have hl : lv_has ls 7 [(0, .ref v), (1, .int (nI 0)), (2, .ref q), (3, .int (nI 0)), (4, .int (nI t.length))] := hl
  obtain ⟨hP, hR⟩ := hX
  have h64 := hT.len
  have hD := d_one (A := Ad q s.heap.size) (a := q) (e := .inl (eB E, t.length, .inl g0)) (Or.inl rfl)
  have hP : va_P E.1 vwCl [(q, .inl (eB E, t.length, .inl g0))] s.heap := hP
  have hD : va_D (Ad q s.heap.size) [(q, .inl (eB E, t.length, .inl g0))] := hD
  refine lv_iconst (v := nI 0) hx hb dJ4_compress_4_0 (by decide) ?_
  refine lv_istore (lv' := [(5, .int (nI 0)), (0, .ref v), (1, .int (nI 0)), (2, .ref q), (3, .int (nI 0)), (4, .int (nI t.length))]) hx hb dJ4_compress_4_1 hl (by decide) rfl (fun ls hl => ?_)
  have loop : ∀ (n k : Nat) (g : Nat → Int32) (H : Heap) (locs : List Loc) (ls : Array Slot), (k + n = t.length) → (va_P E.1 vwCl [(q, .inl (eB E, t.length, .inl g))] H) → (va_D (Ad q s.heap.size) [(q, .inl (eB E, t.length, .inl g))]) → (va_S (Ad q s.heap.size) s.heap H locs) → (∀ j, j < k → g j = tb t j) → lv_has ls 7 [(5, .int (nI k)), (0, .ref v), (1, .int (nI k)), (2, .ref q), (3, .int (nI k)), (4, .int (nI t.length))] → W pp l ee ({ frames := 0, cells := 0, slots := 0, locals := 0 } : Room) s mm ([.ref v, .int (nI 0), .ref q, .int (nI 0), .int (nI t.length)] : List Value).toArray bw me cd H locs 0 0 (MQ bw (QJ (nI t.length) (fun H1 => ∃ g, va_P E.1 vwCl [(q, .inl (eB E, t.length, .inl g))] H1 ∧ ∀ j, j < t.length → g j = tb t j) (Ad q s.heap.size)) ([.ref v, .int (nI 0), .ref q, .int (nI 0), .int (nI t.length)] : List Value).toArray s 0 0 (Ad q s.heap.size)) (F0 mm 3 ls []) := by
    intro n
    induction n with
    | zero =>
      intro k g H locs ls hk hP hD hS hg hl
      refine lv_iload hx hb dJ4_compress_4_3 (lv_at hl 0 rfl) ?_
      refine lv_iload hx hb dJ4_compress_4_5 (lv_at hl 5 rfl) ?_
      refine lv_icmp_ge (tgt := 44) hx hb dJ4_compress_4_7 (by decide) (fun c_1 => ?_) (fun c_1 => absurd ((nI_leI (by omega) (by omega)).mpr (by omega)) c_1)
      refine lv_iload hx hb dJ4_compress_4_44 (lv_at hl 5 rfl) ?_
      exact z_QJ hF hr hlk (rfl) rfl hS ⟨g, hP, fun j hj => hg j (by omega)⟩ (by omega) (by omega) dJ4_compress_4_46
    | succ n ih =>
      intro k g H locs ls hk hP hD hS hg hl
      refine lv_iload hx hb dJ4_compress_4_3 (lv_at hl 0 rfl) ?_
      refine lv_iload hx hb dJ4_compress_4_5 (lv_at hl 5 rfl) ?_
      refine lv_icmp_ge (tgt := 44) hx hb dJ4_compress_4_7 (by decide) (fun c_2 => absurd c_2 (fun z => absurd ((nI_leI (by omega) (by omega)).mp z) (by omega))) (fun c_2 => ?_)
      have hc := hT.at k
      refine lv_aload_n hx hb dJ4_compress_4_10 rfl (lv_at hl 1 rfl) ?_
      refine lv_iload_n hx hb dJ4_compress_4_11 rfl (lv_at hl 2 rfl) ?_
      refine r_cld hF hE (hR.at hS (fun _ z => z)) (by omega) (by omega) dJ4_compress_4_12 ?_
      refine lv_istore (lv' := [(6, .int (nI (t.getD k 0))), (5, .int (nI k)), (0, .ref v), (1, .int (nI k)), (2, .ref q), (3, .int (nI k)), (4, .int (nI t.length))]) hx hb dJ4_compress_4_13 hl (by decide) rfl (fun ls hl => ?_)
      refine lv_iload hx hb dJ4_compress_4_15 (lv_at hl 0 rfl) ?_
      refine lv_sipush (v := nI 255) hx hb dJ4_compress_4_17 (by decide) ?_
      refine lv_icmp_le (tgt := 26) hx hb dJ4_compress_4_20 (by decide) (fun c_3 => ?_) (fun c_3 => absurd ((nI_leI (by omega) (by omega)).mpr (by omega)) c_3)
      refine lv_aload_n hx hb dJ4_compress_4_26 rfl (lv_at hl 4 rfl) ?_
      refine lv_iload_n hx hb dJ4_compress_4_27 rfl (lv_at hl 5 rfl) ?_
      refine lv_iload hx hb dJ4_compress_4_28 (lv_at hl 0 rfl) ?_
      refine lv_i2b (v := nI (t.getD k 0)) hx hb dJ4_compress_4_30 (c_i2b _ hc) ?_
      refine r_bst hF hE hP hD hS 0 rfl (j := k) (by omega) (by omega) (c_vb _ hc) dJ4_compress_4_31 (fun H_4 locs_4 hP hD hS => ?_)
      have hP : va_P E.1 vwCl [(q, .inl (eB E, t.length, .inl (upd g k (nI (t.getD k 0)))))] H_4 := hP
      have hD : va_D (Ad q s.heap.size) [(q, .inl (eB E, t.length, .inl (upd g k (nI (t.getD k 0)))))] := hD
      refine lv_iinc (v := nI (k + 1)) (lv' := [(1, .int (nI (k + 1))), (6, .int (nI (t.getD k 0))), (5, .int (nI k)), (0, .ref v), (2, .ref q), (3, .int (nI k)), (4, .int (nI t.length))]) hx hb dJ4_compress_4_32 hl (k := 3) rfl (nI_add k 1) (by decide) rfl (fun ls hl => ?_)
      refine lv_iinc (v := nI (k + 1)) (lv' := [(3, .int (nI (k + 1))), (1, .int (nI (k + 1))), (6, .int (nI (t.getD k 0))), (5, .int (nI k)), (0, .ref v), (2, .ref q), (4, .int (nI t.length))]) hx hb dJ4_compress_4_35 hl (k := 5) rfl (nI_add k 1) (by decide) rfl (fun ls hl => ?_)
      refine lv_iinc (v := nI (k + 1)) (lv' := [(5, .int (nI (k + 1))), (3, .int (nI (k + 1))), (1, .int (nI (k + 1))), (6, .int (nI (t.getD k 0))), (0, .ref v), (2, .ref q), (4, .int (nI t.length))]) hx hb dJ4_compress_4_38 hl (k := 3) rfl (nI_add k 1) (by decide) rfl (fun ls hl => ?_)
      refine lv_goto (tgt := 3) hx hb dJ4_compress_4_41 (by decide) ?_
      exact ih (k + 1) _ _ _ ls (by omega) hP hD hS (fun j hj => by
          by_cases hjk : j = k
          · subst hjk; exact pk_us
          · rw [pk_un hjk]; exact hg j (by omega)) (lv_sub hl [0, 4, 2, 5, 1, 6] rfl)
  exact loop t.length 0 g0 _ _ ls (by omega) hP hD hS (fun j hj => absurd hj (Nat.not_lt_zero j)) (lv_sub hl [0, 1, 2, 3, 4, 5] rfl)
set_option maxHeartbeats 4000000 in
/-- compress_3 -/
theorem m_cmp3 (l : Launch) (E : EvT) (sz : Nat) (v : Nat) (t : List Nat) (hT : Tx t) : Met l yJ4_compress_3 (ws_ yJ4_compress_3 cJ4_compress_3 6 (some (.array .byte))) ({ frames := 1, cells := 1, slots := 100, locals := 26 }) (PcE [.ref v, .int (nI 0), .int (nI t.length)] E (Nw sz) sz (fun H => RA (eC E) No H v t.length (tb t))) (QR (fun r1 H1 => ∃ g : Nat → Int32, va_P E.1 vwCl [(r1, .inl (eB E, t.length, .inl g))] H1 ∧ sz ≤ r1 ∧ ∀ j, j < t.length → g j = tb t j) (Nw sz)) 1 100 (Nw sz) := by
  refine ofE RJ4 rfl (by decide) (Nat.le_of_ble_eq_true rfl) ?_
  intro pp ee s mm bw me cd ls hF hr hlk hnm hsz hE hX hl
  subst hsz
  have hx := hF.1
  have hb := hF.2.1
  have hS : va_S (Nw s.heap.size) s.heap s.heap [] := va_S.rf
  have hl : lv_has ls 6 [(0, .ref v), (1, .int (nI 0)), (2, .int (nI t.length))] := hl
  have hA : ∀ q, s.heap.size ≤ q → (Nw s.heap.size) q := fun _ h => h
  have hR := hX.nw
  have h64 := hT.len
  have hP := p_nil (E := E) (H := s.heap)
  have hD := d_nil (A := Nw s.heap.size)
  refine lv_iload_n hx hb dJ4_compress_3_0 rfl (lv_at hl 2 rfl) ?_
  refine r_new (cX := eB E) (atype := .byte) hF hE q32 (hE.1.2 0 _ rfl).2 rfl hP hD hS hA (N' := t.length) (by omega) (by decide) (by show _ ≤ 1; omega) (by show _ ≤ 100; omega) dJ4_compress_3_1 (fun q H_1 hq_q hP hD hS hz_1 hk_1 => ?_)
  have hP : va_P E.1 vwCl [(q, .inl (eB E, t.length, .inl (fun _ => 0)))] H_1 := hP
  have hD : va_D (Nw s.heap.size) [(q, .inl (eB E, t.length, .inl (fun _ => 0)))] := hD
  refine lv_astore_n (lv' := [(3, .ref q), (0, .ref v), (1, .int (nI 0)), (2, .int (nI t.length))]) hx hb dJ4_compress_3_3 rfl hl (by decide) rfl (fun ls hl => ?_)
  refine lv_aload_n hx hb dJ4_compress_3_4 rfl (lv_at hl 1 rfl) ?_
  refine lv_iload_n hx hb dJ4_compress_3_5 rfl (lv_at hl 2 rfl) ?_
  refine lv_aload_n hx hb dJ4_compress_3_6 rfl (lv_at hl 0 rfl) ?_
  refine lv_iconst (v := nI 0) hx hb dJ4_compress_3_7 (by decide) ?_
  refine lv_iload_n hx hb dJ4_compress_3_8 rfl (lv_at hl 3 rfl) ?_
  refine tQJ (uS 5 (rest := []) hF hE hS (adA hD hS hA 0 rfl) (m_cmp4 l E H_1.size v q t hT _) (lw_S q369 q370 q8 q371) ⟨hP, hR.at hS (adA hD hS hA 0 rfl)⟩ hl.1 rfl dJ4_compress_3_9 ⟨by show _ ≤ 1; omega, by show _ ≤ 100; omega⟩) hS (adA hD hS hA 0 rfl) (fun H_2 locs_2 hB hz_2 hk_2 hSn => ?_)
  obtain ⟨g, hg, hgf⟩ := hB
  obtain ⟨hP, hD⟩ := j_set hP hD 0 rfl hk_2 hg
  have hS := hSn
  have hP : va_P E.1 vwCl [(q, .inl (eB E, t.length, .inl g))] H_2 := hP
  have hD : va_D (Nw s.heap.size) [(q, .inl (eB E, t.length, .inl g))] := hD
  refine lv_istore (lv' := [(4, .int (nI t.length)), (3, .ref q), (0, .ref v), (1, .int (nI 0)), (2, .int (nI t.length))]) hx hb dJ4_compress_3_12 hl (by decide) rfl (fun ls hl => ?_)
  refine lv_iload hx hb dJ4_compress_3_14 (lv_at hl 0 rfl) ?_
  refine lv_iload_n hx hb dJ4_compress_3_16 rfl (lv_at hl 4 rfl) ?_
  refine lv_icmp_eq (tgt := 57) hx hb dJ4_compress_3_17 (by decide) (fun c_3 => ?_) (fun c_3 => absurd rfl c_3)
  refine lv_aload_n hx hb dJ4_compress_3_57 rfl (lv_at hl 1 rfl) ?_
  exact z_QR hF hr hlk (Or.inr ⟨_, rfl⟩) hS ⟨g, hP, by rw [hq_q]; exact Nat.le_refl _, hgf⟩ (by omega) (by omega) dJ4_compress_3_58
set_option maxHeartbeats 4000000 in
/-- coderFromArrayLen -/
theorem m_cfa (l : Launch) (E : EvT) (sz : Nat) (v n : Nat) (f : Nat → Int32) : Met l yJ4_coderFromArrayLen (ws_ yJ4_coderFromArrayLen cJ4_coderFromArrayLen 2 (some .byte)) ({ frames := 0, cells := 0, slots := 0, locals := 0 }) (PcE [.ref v, .int (nI n)] E (No) sz (fun H => RA (eB E) No H v n f)) (QI 0) 0 0 (No) := by
  refine ofE RJ4 rfl (by decide) (Nat.le_of_ble_eq_true rfl) ?_
  intro pp ee s mm bw me cd ls hF hr hlk hnm hsz hE hX hl
  subst hsz
  have hx := hF.1
  have hb := hF.2.1
  have hS : va_S (No) s.heap s.heap [] := va_S.rf
  have hl : lv_has ls 2 [(0, .ref v), (1, .int (nI n))] := hl
  refine lv_iload_n hx hb dJ4_coderFromArrayLen_0 rfl (lv_at hl 1 rfl) ?_
  refine lv_aload_n hx hb dJ4_coderFromArrayLen_1 rfl (lv_at hl 0 rfl) ?_
  refine r_len hF hE 0 rfl hX dJ4_coderFromArrayLen_2 ?_
  refine lv_isub hx hb dJ4_coderFromArrayLen_3 ?_
  refine w_to (nI 0) (by rw [pk_sub (Nat.le_refl n), Nat.sub_self]) ?_
  refine lv_bipush (v := nI 31) hx hb dJ4_coderFromArrayLen_4 (by decide) ?_
  refine lv_iushr (v := nI 0) hx hb dJ4_coderFromArrayLen_6 (by decide) ?_
  refine lv_i2b (v := 0) hx hb dJ4_coderFromArrayLen_7 (by decide) ?_
  exact z_I hF hr hlk (rfl) rfl dJ4_coderFromArrayLen_8
set_option maxHeartbeats 4000000 in
/-- init_4 -/
theorem m_init4 (l : Launch) (E : EvT) (sz : Nat) (o v : Nat) (t : List Nat) (hT : Tx t) (h0 : t.length ≠ 0) : Met l yJ0_init_4 (ws_ yJ0_init_4 cJ0_init_4 6 none) ({ frames := 2, cells := 1, slots := 100, locals := 51 }) (PcE [.ref o, .ref v, .int (nI 0), .int (nI t.length), .null] E (Ad o sz) sz (fun H => va_P E.1 vwCl [(o, .inr (0, [.null, .int 0, .int 0, .int 0]))] H ∧ RA (eC E) (Ad o sz) H v t.length (tb t))) (QW (fun H1 => ∃ (v1 : Nat) (g : Nat → Int32), va_P E.1 vwCl [(o, .inr (0, [.ref v1, .int 0, .int 0, .int 0])), (v1, .inl (eB E, t.length, .inl g))] H1 ∧ va_D (Ad o sz) [(o, .inr (0, [.ref v1, .int 0, .int 0, .int 0])), (v1, .inl (eB E, t.length, .inl g))] ∧ ∀ j, j < t.length → g j = tb t j) (Ad o sz)) 1 100 (Ad o sz) := by
  refine ofE RJ0 rfl (by decide) (Nat.le_of_ble_eq_true rfl) ?_
  intro pp ee s mm bw me cd ls hF hr hlk hnm hsz hE hX hl
  subst hsz
  have hx := hF.1
  have hb := hF.2.1
  have hS : va_S (Ad o s.heap.size) s.heap s.heap [] := va_S.rf
  have hl : lv_has ls 6 [(0, .ref o), (1, .ref v), (2, .int (nI 0)), (3, .int (nI t.length)), (4, .null)] := hl
  have hA : ∀ q, s.heap.size ≤ q → (Ad o s.heap.size) q := fun _ h => Or.inr h
  obtain ⟨hP, hR⟩ := hX
  have h64 := hT.len
  have hD := d_one (A := Ad o s.heap.size) (a := o) (e := .inr (0, [.null, .int 0, .int 0, .int 0])) (Or.inl rfl)
  have hP : va_P E.1 vwCl [(o, .inr (0, [.null, .int 0, .int 0, .int 0]))] s.heap := hP
  have hD : va_D (Ad o s.heap.size) [(o, .inr (0, [.null, .int 0, .int 0, .int 0]))] := hD
  refine lv_aload_n hx hb dJ0_init_4_0 rfl (lv_at hl 0 rfl) ?_
  refine W.objInit hx hb hF.2.2.2.1 (hF.2.2.2.2 _ q233) (hF.2.2.2.2 _ q22) (hF.2.2.2.2 _ q23) rfl (by rw [hF.2.2.1]; exact hl.1) rfl dJ0_init_4_1 (Nat.le_of_ble_eq_true rfl) (Nat.le_of_ble_eq_true rfl) ?_
  refine W.eq (g2 := F0 mm 4 ls []) rfl ?_
  refine lv_iload_n hx hb dJ0_init_4_4 rfl (lv_at hl 3 rfl) ?_
  refine lv_if_ne (tgt := 27) hx hb dJ0_init_4_5 (by decide) (fun c_1 => ?_) (fun c_1 => absurd c_1 (fun z => h0 ((nI_z (by omega)).mp z)))
  refine r_cs hF hE hS q45 dJ0_init_4_27 ?_
  refine lv_if_eq (tgt := 58) hx hb dJ0_init_4_30 (by decide) (fun c_2 => absurd c_2 (by decide)) (fun c_2 => ?_)
  refine lv_aload_n hx hb dJ0_init_4_33 rfl (lv_at hl 1 rfl) ?_
  refine lv_iload_n hx hb dJ0_init_4_34 rfl (lv_at hl 2 rfl) ?_
  refine lv_iload_n hx hb dJ0_init_4_35 rfl (lv_at hl 3 rfl) ?_
  refine tQR (uS 3 (rest := []) hF hE hS (fun q z => hA q (Nat.le_trans hS.1 z)) (m_cmp3 l E s.heap.size v t hT) (lw_S q366 q367 q8 q368) hR.no hl.1 rfl dJ0_init_4_36 ⟨by show _ ≤ 1; omega, by show _ ≤ 100; omega⟩) hS (fun q z => hA q (Nat.le_trans hS.1 z)) (fun v1 H_3 locs_3 hB hz_3 hk_3 hSn => ?_)
  obtain ⟨g, hg, hq, hgf⟩ := hB
  obtain ⟨hP, hD⟩ := j_new hP hD hk_3 (fun q z => hA q (Nat.le_trans hS.1 z)) hg (d_one hq)
  have hS := hSn
  have hP : va_P E.1 vwCl [(o, .inr (0, [.null, .int 0, .int 0, .int 0])), (v1, .inl (eB E, t.length, .inl g))] H_3 := hP
  have hD : va_D (Ad o s.heap.size) [(o, .inr (0, [.null, .int 0, .int 0, .int 0])), (v1, .inl (eB E, t.length, .inl g))] := hD
  refine lv_astore (lv' := [(5, .ref v1), (0, .ref o), (1, .ref v), (2, .int (nI 0)), (3, .int (nI t.length)), (4, .null)]) hx hb dJ0_init_4_39 hl (by decide) rfl (fun ls hl => ?_)
  refine lv_aload_n hx hb dJ0_init_4_41 rfl (lv_at hl 1 rfl) ?_
  refine lv_aload hx hb dJ0_init_4_42 (lv_at hl 0 rfl) ?_
  refine lv_iload_n hx hb dJ0_init_4_44 rfl (lv_at hl 4 rfl) ?_
  refine tI (v := 0) (uS 2 (rest := [.ref o]) hF hE hS (fun _ z => absurd z id) (m_cfa l E H_3.size v1 t.length g) (lw_S q267 q268 q8 q269) (RA.of hP 1 rfl id) hl.1 rfl dJ0_init_4_45 ⟨by show _ ≤ 1; omega, by show _ ≤ 100; omega⟩) ?_
  refine va_putF (D := E.1) (cl := vwCl) (ci := 0) (v := .int 0) (ty := .byte) (C := RJ0) (T := TJ0) (N := 4) hx hb hF.2.2.2.2 in_J0 tyJ0 tyJ0_ok nmJ0 hF.2.2.2.1 hE.1 hP hD hS 0 rfl rfl 1 (by decide) (hF.2.2.2.2 _ q271) (fun _ h9 => h9) rfl hnm rfl (by decide +kernel) rfl rfl (Nat.le_of_ble_eq_true rfl) dJ0_init_4_48 (fun H_4 locs_4 hP hD hS => ?_)
  have hP : va_P E.1 vwCl [(o, .inr (0, [.null, .int 0, .int 0, .int 0])), (v1, .inl (eB E, t.length, .inl g))] H_4 := hP
  have hD : va_D (Ad o s.heap.size) [(o, .inr (0, [.null, .int 0, .int 0, .int 0])), (v1, .inl (eB E, t.length, .inl g))] := hD
  refine lv_aload_n hx hb dJ0_init_4_51 rfl (lv_at hl 1 rfl) ?_
  refine lv_aload hx hb dJ0_init_4_52 (lv_at hl 0 rfl) ?_
  refine va_putF (D := E.1) (cl := vwCl) (ci := 0) (v := .ref v1) (ty := (.array .byte)) (C := RJ0) (T := TJ0) (N := 4) hx hb hF.2.2.2.2 in_J0 tyJ0 tyJ0_ok nmJ0 hF.2.2.2.1 hE.1 hP hD hS 0 rfl rfl 0 (by decide) (hF.2.2.2.2 _ q270) (fun _ h9 => h9) rfl hnm rfl (by decide +kernel) rfl rfl (Nat.le_of_ble_eq_true rfl) dJ0_init_4_54 (fun H_5 locs_5 hP hD hS => ?_)
  have hP : va_P E.1 vwCl [(o, .inr (0, [.ref v1, .int 0, .int 0, .int 0])), (v1, .inl (eB E, t.length, .inl g))] H_5 := hP
  have hD : va_D (Ad o s.heap.size) [(o, .inr (0, [.ref v1, .int 0, .int 0, .int 0])), (v1, .inl (eB E, t.length, .inl g))] := hD
  exact z_QW hF hr hlk hS ⟨v1, g, hP, hD, hgf⟩ (by omega) (by omega) dJ0_init_4_57
set_option maxHeartbeats 4000000 in
/-- init_3 -/
theorem m_init3 (l : Launch) (E : EvT) (sz : Nat) (o v : Nat) (t : List Nat) (hT : Tx t) (h0 : t.length ≠ 0) : Met l yJ0_init_3 (ws_ yJ0_init_3 cJ0_init_3 2 none) ({ frames := 3, cells := 1, slots := 100, locals := 76 }) (PcE [.ref o, .ref v] E (Ad o sz) sz (fun H => va_P E.1 vwCl [(o, .inr (0, [.null, .int 0, .int 0, .int 0]))] H ∧ RA (eC E) (Ad o sz) H v t.length (tb t))) (QW (fun H1 => ∃ (v1 : Nat) (g : Nat → Int32), va_P E.1 vwCl [(o, .inr (0, [.ref v1, .int 0, .int 0, .int 0])), (v1, .inl (eB E, t.length, .inl g))] H1 ∧ va_D (Ad o sz) [(o, .inr (0, [.ref v1, .int 0, .int 0, .int 0])), (v1, .inl (eB E, t.length, .inl g))] ∧ ∀ j, j < t.length → g j = tb t j) (Ad o sz)) 1 100 (Ad o sz) := by
  refine ofE RJ0 rfl (by decide) (Nat.le_of_ble_eq_true rfl) ?_
  intro pp ee s mm bw me cd ls hF hr hlk hnm hsz hE hX hl
  subst hsz
  have hx := hF.1
  have hb := hF.2.1
  have hS : va_S (Ad o s.heap.size) s.heap s.heap [] := va_S.rf
  have hl : lv_has ls 2 [(0, .ref o), (1, .ref v)] := hl
  have hA : ∀ q, s.heap.size ≤ q → (Ad o s.heap.size) q := fun _ h => Or.inr h
  obtain ⟨hP, hR⟩ := hX
  have hX := And.intro hP hR
  have hD := d_one (A := Ad o s.heap.size) (a := o) (e := .inr (0, [.null, .int 0, .int 0, .int 0])) (Or.inl rfl)
  have hP : va_P E.1 vwCl [(o, .inr (0, [.null, .int 0, .int 0, .int 0]))] s.heap := hP
  have hD : va_D (Ad o s.heap.size) [(o, .inr (0, [.null, .int 0, .int 0, .int 0]))] := hD
  refine lv_aload_n hx hb dJ0_init_3_0 rfl (lv_at hl 0 rfl) ?_
  refine lv_aload_n hx hb dJ0_init_3_1 rfl (lv_at hl 1 rfl) ?_
  refine lv_iconst (v := nI 0) hx hb dJ0_init_3_2 (by decide) ?_
  refine lv_aload_n hx hb dJ0_init_3_3 rfl (lv_at hl 1 rfl) ?_
  refine r_len hF hE 1 rfl hR dJ0_init_3_4 ?_
  refine lv_null hx hb dJ0_init_3_5 ?_
  refine tQW (uI 4 (rest := []) hF hE hS (adA hD hS hA 0 rfl) (m_init4 l E s.heap.size o v t hT h0) q4 q362 q363 q364 hX hl.1 rfl dJ0_init_3_6 ⟨by show _ ≤ 1; omega, by show _ ≤ 100; omega⟩) hS (adA hD hS hA 0 rfl) (fun H_1 locs_1 hB hz_1 hk_1 hSn => ?_)
  have hS := hSn
  exact z_QW hF hr hlk hS hB (by omega) (by omega) dJ0_init_3_9
set_option maxHeartbeats 4000000 in
/-- valueOf -/
theorem m_vOf (l : Launch) (E : EvT) (sz : Nat) (v : Nat) (t : List Nat) (hT : Tx t) (h0 : t.length ≠ 0) (N : Nat → Prop) (hN : ∀ q, N q → q < sz) : Met l yJ0_valueOf (ws_ yJ0_valueOf cJ0_valueOf 1 (some (.object "java/lang/String"))) ({ frames := 4, cells := 2, slots := 104, locals := 97 }) (PcE [.ref v] E (Nw sz) sz (fun H => RA (eC E) No H v t.length (tb t))) (QR (fun r1 H1 => Str E N H1 r1 t) (Nw sz)) 2 104 (Nw sz) := by
  refine ofE RJ0 rfl (by decide) (Nat.le_of_ble_eq_true rfl) ?_
  intro pp ee s mm bw me cd ls hF hr hlk hnm hsz hE hX hl
  subst hsz
  have hx := hF.1
  have hb := hF.2.1
  have hS : va_S (Nw s.heap.size) s.heap s.heap [] := va_S.rf
  have hl : lv_has ls 1 [(0, .ref v)] := hl
  have hA : ∀ q, s.heap.size ≤ q → (Nw s.heap.size) q := fun _ h => h
  have hR := hX.nw
  have hP := p_nil (E := E) (H := s.heap)
  have hD := d_nil (A := Nw s.heap.size)
  refine va_new (D := E.1) (cl := vwCl) (ci := 0) (fs := [.null, .int 0, .int 0, .int 0]) (C := RJ0) (T := TJ0) (N := 4) hx hb hF.2.2.2.2 in_J0 tyJ0 tyJ0_ok hF.2.2.2.1 (hF.2.2.2.2 _ q358) (hF.2.2.2.2 _ q226) (hF.2.2.2.2 _ q4) hE.1 hP hD hS hA rfl (fun j hj => by rcases (show j = 0 ∨ j = 1 ∨ j = 2 ∨ j = 3 by omega) with rfl | rfl | rfl | rfl <;> rfl) (by show _ ≤ 2; omega) (by show _ ≤ 104; omega) dJ0_valueOf_0 (fun o H_1 hP hD hS => ?_)
  have hP : va_P E.1 vwCl [(o, .inr (0, [.null, .int 0, .int 0, .int 0]))] H_1 := hP
  have hD : va_D (Nw s.heap.size) [(o, .inr (0, [.null, .int 0, .int 0, .int 0]))] := hD
  refine lv_dup hx hb dJ0_valueOf_3 rfl ?_
  refine lv_aload_n hx hb dJ0_valueOf_4 rfl (lv_at hl 0 rfl) ?_
  refine tQW (uI 1 (rest := [.ref o]) hF hE hS (adA hD hS hA 0 rfl) (m_init3 l E H_1.size o v t hT h0) q4 q359 q360 q361 ⟨hP, hR.at hS (adA hD hS hA 0 rfl)⟩ hl.1 rfl dJ0_valueOf_5 ⟨by show _ ≤ 2; omega, by show _ ≤ 104; omega⟩) hS (adA hD hS hA 0 rfl) (fun H_2 locs_2 hB hz_2 hk_2 hSn => ?_)
  obtain ⟨v1, g, hP1, hD1, hgf⟩ := hB
  obtain ⟨hP, hD⟩ := j_setN hP hD 0 rfl hk_2 (fun q z => hA q (Nat.le_trans hS.1 z)) hP1 hD1
  have hS := hSn
  have hP : va_P E.1 vwCl [(o, .inr (0, [.ref v1, .int 0, .int 0, .int 0])), (v1, .inl (eB E, t.length, .inl g))] H_2 := hP
  have hD : va_D (Nw s.heap.size) [(o, .inr (0, [.ref v1, .int 0, .int 0, .int 0])), (v1, .inl (eB E, t.length, .inl g))] := hD
  exact z_QR hF hr hlk (Or.inl ⟨_, rfl⟩) hS ⟨hT, v1, SO.of hP 0 rfl (fun z => absurd (hN _ z) (Nat.not_lt.mpr (d_in hD 0 rfl))), (RA.of hP 1 rfl (fun z => absurd (hN _ z) (Nat.not_lt.mpr (d_in hD 1 rfl)))).congr hgf⟩ (by omega) (by omega) dJ0_valueOf_8
end
section
/-! StringBuilders that need no more room than they have -/
set_option maxRecDepth 100000
theorem tb_fit {t : List Nat} (h : Tx t) : sb_Fit (tb t) := fun j => c_fb _ (h.at j)
theorem q_sb {E : EvT} {sb bv n cap o : Nat} {g : Nat → Int32} {H0 H : Heap} {locs : List Loc} (hQ : va_P E.1 vwCl (sbW E sb bv n cap g) H0) (hS : va_S (Ad o H0.size) H0 H locs) (h1 : sb ≠ o) (h2 : bv ≠ o) : va_P E.1 vwCl (sbW E sb bv n cap g) H := by
  refine p_at hQ hS (fun k q h z => ?_)
  have hl := (hQ k q h).lt
  rcases z with z | z
  · match k, h with
    | 0, h => cases h; exact h1 z
    | 1, h => cases h; exact h2 z
    | k + 2, h => simp at h
  · exact absurd hl (Nat.not_lt.mpr z)

set_option maxHeartbeats 4000000 in
/-- init_2 -/
theorem m_J7_in2 (l : Launch) (E : EvT) (sz : Nat) (o k : Nat) (hk : k ≤ 100) : Met l yJ7_init_2 (ws_ yJ7_init_2 cJ7_init_2 2 none) ({ frames := 1, cells := 1, slots := 100, locals := 12 }) (PcE [.ref o, .int (nI k)] E (Ad o sz) sz (fun H => va_P E.1 vwCl [(o, .inr (1, [.null, .int 0, .int 0, .int 0]))] H)) (QW (fun H1 => ∃ bv : Nat, va_P E.1 vwCl (sbW E o bv 0 k (fun _ => 0)) H1 ∧ va_D (Ad o sz) (sbW E o bv 0 k (fun _ => 0))) (Ad o sz)) 1 100 (Ad o sz) := by
  refine ofE RJ7 rfl (by decide) (Nat.le_of_ble_eq_true rfl) ?_
  intro pp ee s mm bw me cd ls hF hr hlk hnm hsz hE hX hl
  subst hsz
  have hx := hF.1
  have hb := hF.2.1
  have hS : va_S (Ad o s.heap.size) s.heap s.heap [] := va_S.rf
  have hl : lv_has ls 2 [(0, .ref o), (1, .int (nI k))] := hl
  have hA : ∀ q, s.heap.size ≤ q → (Ad o s.heap.size) q := fun _ h => Or.inr h
  have hP := hX
  have hD := d_one (A := Ad o s.heap.size) (a := o) (e := .inr (1, [.null, .int 0, .int 0, .int 0])) (Or.inl rfl)
  have hP : va_P E.1 vwCl [(o, .inr (1, [.null, .int 0, .int 0, .int 0]))] s.heap := hP
  have hD : va_D (Ad o s.heap.size) [(o, .inr (1, [.null, .int 0, .int 0, .int 0]))] := hD
  refine lv_aload_n hx hb dJ7_init_2_0 rfl (lv_at hl 0 rfl) ?_
  refine W.objInit hx hb hF.2.2.2.1 (hF.2.2.2.2 _ q55) (hF.2.2.2.2 _ q22) (hF.2.2.2.2 _ q23) rfl (by rw [hF.2.2.1]; exact hl.1) rfl dJ7_init_2_1 (Nat.le_of_ble_eq_true rfl) (Nat.le_of_ble_eq_true rfl) ?_
  refine W.eq (g2 := F0 mm 4 ls []) rfl ?_
  refine r_cs hF hE hS q123 dJ7_init_2_4 ?_
  refine lv_if_eq (tgt := 25) hx hb dJ7_init_2_7 (by decide) (fun c_1 => absurd c_1 (by decide)) (fun c_1 => ?_)
  refine lv_aload_n hx hb dJ7_init_2_10 rfl (lv_at hl 0 rfl) ?_
  refine lv_iload_n hx hb dJ7_init_2_11 rfl (lv_at hl 1 rfl) ?_
  refine r_new (cX := eB E) (atype := .byte) hF hE q32 (hE.1.2 0 _ rfl).2 rfl hP hD hS hA (N' := k) (by omega) (by decide) (by show _ ≤ 1; omega) (by show _ ≤ 100; omega) dJ7_init_2_12 (fun q H_2 hq_q hP hD hS hz_2 hk_2 => ?_)
  have hP : va_P E.1 vwCl [(o, .inr (1, [.null, .int 0, .int 0, .int 0])), (q, .inl (eB E, k, .inl (fun _ => 0)))] H_2 := hP
  have hD : va_D (Ad o s.heap.size) [(o, .inr (1, [.null, .int 0, .int 0, .int 0])), (q, .inl (eB E, k, .inl (fun _ => 0)))] := hD
  refine va_put (D := E.1) (cl := vwCl) (ci := 1) (v := .ref q) (ty := (.array .byte)) (C := RJ8) (T := TJ8) (N := 4) hx hb hF.2.2.2.2 in_J8 tyJ8 tyJ8_ok nmJ8 hF.2.2.2.1 hE.1 hP hD hS 0 rfl rfl 0 (by decide) (hF.2.2.2.2 _ q183) (fun _ h9 => h9) rfl (by decide +kernel) rfl rfl (Nat.le_of_ble_eq_true rfl) dJ7_init_2_14 (fun H_3 locs_3 hP hD hS => ?_)
  have hP : va_P E.1 vwCl [(o, .inr (1, [.ref q, .int 0, .int 0, .int 0])), (q, .inl (eB E, k, .inl (fun _ => 0)))] H_3 := hP
  have hD : va_D (Ad o s.heap.size) [(o, .inr (1, [.ref q, .int 0, .int 0, .int 0])), (q, .inl (eB E, k, .inl (fun _ => 0)))] := hD
  refine lv_aload_n hx hb dJ7_init_2_17 rfl (lv_at hl 0 rfl) ?_
  refine lv_iconst (v := nI 0) hx hb dJ7_init_2_18 (by decide) ?_
  refine w_to (0) nI_0 ?_
  refine va_put (D := E.1) (cl := vwCl) (ci := 1) (v := .int 0) (ty := .byte) (C := RJ8) (T := TJ8) (N := 4) hx hb hF.2.2.2.2 in_J8 tyJ8 tyJ8_ok nmJ8 hF.2.2.2.1 hE.1 hP hD hS 0 rfl rfl 1 (by decide) (hF.2.2.2.2 _ q184) (fun _ h9 => h9) rfl (by decide +kernel) rfl rfl (Nat.le_of_ble_eq_true rfl) dJ7_init_2_19 (fun H_4 locs_4 hP hD hS => ?_)
  have hP : va_P E.1 vwCl [(o, .inr (1, [.ref q, .int 0, .int 0, .int 0])), (q, .inl (eB E, k, .inl (fun _ => 0)))] H_4 := hP
  have hD : va_D (Ad o s.heap.size) [(o, .inr (1, [.ref q, .int 0, .int 0, .int 0])), (q, .inl (eB E, k, .inl (fun _ => 0)))] := hD
  refine lv_goto (tgt := 38) hx hb dJ7_init_2_22 (by decide) ?_
  exact z_QW hF hr hlk hS ⟨q, hP, hD⟩ (by omega) (by omega) dJ7_init_2_38
set_option maxHeartbeats 4000000 in
/-- init_2 -/
theorem m_J8_in2 (l : Launch) (E : EvT) (sz : Nat) (o k : Nat) (hk : k ≤ 100) : Met l yJ8_init_2 (ws_ yJ8_init_2 cJ8_init_2 2 none) ({ frames := 2, cells := 1, slots := 100, locals := 33 }) (PcE [.ref o, .int (nI k)] E (Ad o sz) sz (fun H => va_P E.1 vwCl [(o, .inr (1, [.null, .int 0, .int 0, .int 0]))] H)) (QW (fun H1 => ∃ bv : Nat, va_P E.1 vwCl (sbW E o bv 0 k (fun _ => 0)) H1 ∧ va_D (Ad o sz) (sbW E o bv 0 k (fun _ => 0))) (Ad o sz)) 1 100 (Ad o sz) := by
  refine ofE RJ8 rfl (by decide) (Nat.le_of_ble_eq_true rfl) ?_
  intro pp ee s mm bw me cd ls hF hr hlk hnm hsz hE hX hl
  subst hsz
  have hx := hF.1
  have hb := hF.2.1
  have hS : va_S (Ad o s.heap.size) s.heap s.heap [] := va_S.rf
  have hl : lv_has ls 2 [(0, .ref o), (1, .int (nI k))] := hl
  have hA : ∀ q, s.heap.size ≤ q → (Ad o s.heap.size) q := fun _ h => Or.inr h
  have hP := hX
  have hD := d_one (A := Ad o s.heap.size) (a := o) (e := .inr (1, [.null, .int 0, .int 0, .int 0])) (Or.inl rfl)
  have hP : va_P E.1 vwCl [(o, .inr (1, [.null, .int 0, .int 0, .int 0]))] s.heap := hP
  have hD : va_D (Ad o s.heap.size) [(o, .inr (1, [.null, .int 0, .int 0, .int 0]))] := hD
  refine lv_aload_n hx hb dJ8_init_2_0 rfl (lv_at hl 0 rfl) ?_
  refine lv_iload_n hx hb dJ8_init_2_1 rfl (lv_at hl 1 rfl) ?_
  refine tQW (uI 1 (rest := []) hF hE hS (adA hD hS hA 0 rfl) (m_J7_in2 l E s.heap.size o k hk) q13 q300 q301 q302 hP hl.1 rfl dJ8_init_2_2 ⟨by show _ ≤ 1; omega, by show _ ≤ 100; omega⟩) hS (adA hD hS hA 0 rfl) (fun H_1 locs_1 hB hz_1 hk_1 hSn => ?_)
  have hS := hSn
  exact z_QW hF hr hlk hS hB (by omega) (by omega) dJ8_init_2_5
set_option maxHeartbeats 4000000 in
/-- getBytes -/
theorem m_getB (l : Launch) (E : EvT) (sz : Nat) (a bv n cap : Nat) (g : Nat → Int32) (u : List Nat) (hle : n + u.length ≤ cap) (hcap : cap ≤ 200) (hfg : sb_Fit g) : Met l yJ0_getBytes (ws_ yJ0_getBytes cJ0_getBytes 4 none) ({ frames := 1, cells := 0, slots := 0, locals := 60 }) (PcE [.ref a, .ref bv, .int (nI n), .int 0] E (Ad bv sz) sz (fun H => va_P E.1 vwCl [(bv, .inl (eB E, cap, .inl g))] H ∧ Str E (Ad bv sz) H a u)) (QW (fun H1 => ∃ g1 : Nat → Int32, va_P E.1 vwCl [(bv, .inl (eB E, cap, .inl g1))] H1 ∧ (∀ j, j < n → g1 j = g j) ∧ (∀ j, j < u.length → g1 (n + j) = tb u j) ∧ sb_Fit g1) (Ad bv sz)) 0 0 (Ad bv sz) := by
  refine ofE RJ0 rfl (by decide) (Nat.le_of_ble_eq_true rfl) ?_
  intro pp ee s mm bw me cd ls hF hr hlk hnm hsz hE hX hl
  subst hsz
  have hx := hF.1
  have hb := hF.2.1
  have hS : va_S (Ad bv s.heap.size) s.heap s.heap [] := va_S.rf
  have hl : lv_has ls 4 [(0, .ref a), (1, .ref bv), (2, .int (nI n)), (3, .int 0)] := hl
  obtain ⟨hP, hT, v, hO, hR⟩ := hX
  have hD := d_one (A := Ad bv s.heap.size) (a := bv) (e := .inl (eB E, cap, .inl g)) (Or.inl rfl)
  have hP : va_P E.1 vwCl [(bv, .inl (eB E, cap, .inl g))] s.heap := hP
  have hD : va_D (Ad bv s.heap.size) [(bv, .inl (eB E, cap, .inl g))] := hD
  refine lv_aload_n hx hb dJ0_getBytes_0 rfl (lv_at hl 0 rfl) ?_
  refine tI (v := 0) (uV 0 (rest := []) hF hE hS (fun _ z => absurd z id) (m_coder l E s.heap.size a v) (lw_V q41 q42 q43 q4 q44) (so_recv hE hO) hO.no hl.1 rfl dJ0_getBytes_1 ⟨Nat.le_refl _, Nat.le_refl _⟩) ?_
  refine lv_iload_n hx hb dJ0_getBytes_4 rfl (lv_at hl 3 rfl) ?_
  refine lv_icmp_ne (tgt := 28) hx hb dJ0_getBytes_5 (by decide) (fun c_1 => absurd rfl c_1) (fun c_1 => ?_)
  refine lv_aload_n hx hb dJ0_getBytes_8 rfl (lv_at hl 0 rfl) ?_
  refine r_val hF hE q270 hO dJ0_getBytes_9 ?_
  refine lv_iconst (v := nI 0) hx hb dJ0_getBytes_12 (by decide) ?_
  refine lv_aload_n hx hb dJ0_getBytes_13 rfl (lv_at hl 1 rfl) ?_
  refine lv_iload_n hx hb dJ0_getBytes_14 rfl (lv_at hl 2 rfl) ?_
  refine lv_iload_n hx hb dJ0_getBytes_15 rfl (lv_at hl 3 rfl) ?_
  refine lv_ishl hx hb dJ0_getBytes_16 ?_
  refine w_to (nI n) (sb_shl0 _) ?_
  refine lv_aload_n hx hb dJ0_getBytes_17 rfl (lv_at hl 0 rfl) ?_
  refine r_val hF hE q270 hO dJ0_getBytes_18 ?_
  refine r_len hF hE 0 rfl hR dJ0_getBytes_21 ?_
  refine r_cpy hF hE hl.1 q181 q117 q116 q11 hP hD hS hR 0 rfl (by omega) (by omega) (by omega) (by omega) (fun j hj => tb_fit hT _) (Nat.le_of_ble_eq_true rfl) (Nat.le_of_ble_eq_true rfl) dJ0_getBytes_22 (fun H_9 locs_9 hP hD hS => ?_)
  have hP : va_P E.1 vwCl [(bv, .inl (eB E, cap, .inl (va_cpy (tb u) g 0 n u.length)))] H_9 := hP
  have hD : va_D (Ad bv s.heap.size) [(bv, .inl (eB E, cap, .inl (va_cpy (tb u) g 0 n u.length)))] := hD
  refine lv_goto (tgt := 43) hx hb dJ0_getBytes_25 (by decide) ?_
  exact z_QW hF hr hlk hS ⟨_, hP, fun j hj => pk_cpy_out (Or.inl hj), fun j hj => by rw [pk_cpy_in (by omega) (by omega)]; congr 1; omega, sb_fitC (tb_fit hT) hfg⟩ (by omega) (by omega) dJ0_getBytes_43
set_option maxHeartbeats 4000000 in
/-- putStringAt -/
theorem m_J7_put (l : Launch) (E : EvT) (sz : Nat) (sb bv n cap : Nat) (g : Nat → Int32) (a : Nat) (u : List Nat) (hne : sb ≠ bv) (hle : n + u.length ≤ cap) (hcap : cap ≤ 200) (hfg : sb_Fit g) : Met l yJ7_putStringAt (ws_ yJ7_putStringAt cJ7_putStringAt 3 none) ({ frames := 2, cells := 0, slots := 0, locals := 83 }) (PcE [.ref sb, .int (nI n), .ref a] E (A2 sb bv sz) sz (fun H => va_P E.1 vwCl (sbW E sb bv n cap g) H ∧ Str E (A2 sb bv sz) H a u)) (QW (fun H1 => ∃ g1 : Nat → Int32, va_P E.1 vwCl (sbW E sb bv n cap g1) H1 ∧ (∀ j, j < n → g1 j = g j) ∧ (∀ j, j < u.length → g1 (n + j) = tb u j) ∧ sb_Fit g1) (A2 sb bv sz)) 0 0 (A2 sb bv sz) := by
  refine ofE RJ7 rfl (by decide) (Nat.le_of_ble_eq_true rfl) ?_
  intro pp ee s mm bw me cd ls hF hr hlk hnm hsz hE hX hl
  subst hsz
  have hx := hF.1
  have hb := hF.2.1
  have hS : va_S (A2 sb bv s.heap.size) s.heap s.heap [] := va_S.rf
  have hl : lv_has ls 3 [(0, .ref sb), (1, .int (nI n)), (2, .ref a)] := hl
  have hA : ∀ q, s.heap.size ≤ q → (A2 sb bv s.heap.size) q := fun _ h => Or.inr (Or.inr h)
  obtain ⟨hP, hSt⟩ := hX
  have hX0 := hSt
  obtain ⟨hT, v, hO, hR⟩ := hSt
  have hD := d_two (A := A2 sb bv s.heap.size) (a := sb) (b := bv) (e := .inr (1, [.ref bv, .int 0, .int 0, .int (nI n)])) (e' := .inl (eB E, cap, .inl g)) (Or.inl rfl) (Or.inr (Or.inl rfl)) hne
  have hP : va_P E.1 vwCl [(sb, .inr (1, [.ref bv, .int 0, .int 0, .int (nI n)])), (bv, .inl (eB E, cap, .inl g))] s.heap := hP
  have hD : va_D (A2 sb bv s.heap.size) [(sb, .inr (1, [.ref bv, .int 0, .int 0, .int (nI n)])), (bv, .inl (eB E, cap, .inl g))] := hD
  refine lv_aload_n hx hb dJ7_putStringAt_0 rfl (lv_at hl 0 rfl) ?_
  refine lv_aload_n hx hb dJ7_putStringAt_1 rfl (lv_at hl 2 rfl) ?_
  refine tV (uU 1 (rest := []) hF hE hS (fun _ z => absurd z id) (m_J7_inf l E s.heap.size sb bv n cap g a v) RJ8 (lw_U q154 q566 qp2 q156 q13 q157) (va_recv hE.1 hP (ci := 1) (q0 := 0) rfl rfl) ⟨hP, hO.no⟩ hl.1 rfl dJ7_putStringAt_2 ⟨Nat.le_refl _, Nat.le_refl _⟩) ?_
  refine lv_aload_n hx hb dJ7_putStringAt_5 rfl (lv_at hl 2 rfl) ?_
  refine lv_aload_n hx hb dJ7_putStringAt_6 rfl (lv_at hl 0 rfl) ?_
  refine va_get (D := E.1) (cl := vwCl) (ci := 1) (v := .ref bv) (C := RJ8) (T := TJ8) (N := 4) hx hb hF.2.2.2.2 in_J8 hF.2.2.2.1 hE.1 hP 0 rfl rfl 0 (by decide) (hF.2.2.2.2 _ q183) (fun _ h9 => h9) rfl dJ7_putStringAt_7 ?_
  refine lv_iload_n hx hb dJ7_putStringAt_10 rfl (lv_at hl 1 rfl) ?_
  refine lv_aload_n hx hb dJ7_putStringAt_11 rfl (lv_at hl 0 rfl) ?_
  refine va_get (D := E.1) (cl := vwCl) (ci := 1) (v := .int 0) (C := RJ8) (T := TJ8) (N := 4) hx hb hF.2.2.2.2 in_J8 hF.2.2.2.1 hE.1 hP 0 rfl rfl 1 (by decide) (hF.2.2.2.2 _ q184) (fun _ h9 => h9) rfl dJ7_putStringAt_12 ?_
  refine tQW (uV 3 (rest := []) hF hE hS (adA hD hS hA 1 rfl) (m_getB l E s.heap.size a bv n cap g u hle hcap hfg) (lw_V q177 q178 q179 q4 q180) (so_recv hE hO) ⟨hP.sub [1] rfl, hX0.at hS (adA hD hS hA 1 rfl)⟩ hl.1 rfl dJ7_putStringAt_15 ⟨Nat.le_refl _, Nat.le_refl _⟩) hS (adA hD hS hA 1 rfl) (fun H_1 locs_1 hB hz_1 hk_1 hSn => ?_)
  obtain ⟨g1, hg1, hgp⟩ := hB
  obtain ⟨hP, hD⟩ := j_set hP hD 1 rfl hk_1 hg1
  have hS := hSn
  have hP : va_P E.1 vwCl [(sb, .inr (1, [.ref bv, .int 0, .int 0, .int (nI n)])), (bv, .inl (eB E, cap, .inl g1))] H_1 := hP
  have hD : va_D (A2 sb bv s.heap.size) [(sb, .inr (1, [.ref bv, .int 0, .int 0, .int (nI n)])), (bv, .inl (eB E, cap, .inl g1))] := hD
  exact z_QW hF hr hlk hS ⟨g1, hP, hgp⟩ (by omega) (by omega) dJ7_putStringAt_18
set_option maxHeartbeats 4000000 in
/-- append -/
theorem m_J7_app (l : Launch) (E : EvT) (sz : Nat) (sb bv n cap : Nat) (g : Nat → Int32) (a : Nat) (u : List Nat) (hne : sb ≠ bv) (hle : n + u.length ≤ cap) (hcap : cap ≤ 200) (hfg : sb_Fit g) : Met l yJ7_append (ws_ yJ7_append cJ7_append 3 (some (.object "java/lang/AbstractStringBuilder"))) ({ frames := 3, cells := 0, slots := 0, locals := 105 }) (PcE [.ref sb, .ref a] E (A2 sb bv sz) sz (fun H => va_P E.1 vwCl (sbW E sb bv n cap g) H ∧ Str E (A2 sb bv sz) H a u)) (QR (fun r1 H1 => r1 = sb ∧ ∃ g1 : Nat → Int32, va_P E.1 vwCl (sbW E sb bv (n + u.length) cap g1) H1 ∧ (∀ j, j < n → g1 j = g j) ∧ (∀ j, j < u.length → g1 (n + j) = tb u j) ∧ sb_Fit g1) (A2 sb bv sz)) 0 0 (A2 sb bv sz) := by
  refine ofE RJ7 rfl (by decide) (Nat.le_of_ble_eq_true rfl) ?_
  intro pp ee s mm bw me cd ls hF hr hlk hnm hsz hE hX hl
  subst hsz
  have hx := hF.1
  have hb := hF.2.1
  have hS : va_S (A2 sb bv s.heap.size) s.heap s.heap [] := va_S.rf
  have hl : lv_has ls 3 [(0, .ref sb), (1, .ref a)] := hl
  have hA : ∀ q, s.heap.size ≤ q → (A2 sb bv s.heap.size) q := fun _ h => Or.inr (Or.inr h)
  obtain ⟨hP, hSt⟩ := hX
  have hD := d_two (A := A2 sb bv s.heap.size) (a := sb) (b := bv) (e := .inr (1, [.ref bv, .int 0, .int 0, .int (nI n)])) (e' := .inl (eB E, cap, .inl g)) (Or.inl rfl) (Or.inr (Or.inl rfl)) hne
  have hP : va_P E.1 vwCl [(sb, .inr (1, [.ref bv, .int 0, .int 0, .int (nI n)])), (bv, .inl (eB E, cap, .inl g))] s.heap := hP
  have hD : va_D (A2 sb bv s.heap.size) [(sb, .inr (1, [.ref bv, .int 0, .int 0, .int (nI n)])), (bv, .inl (eB E, cap, .inl g))] := hD
  refine lv_aload_n hx hb dJ7_append_0 rfl (lv_at hl 1 rfl) ?_
  refine lv_ifnonnull (tgt := 9) hx hb dJ7_append_1 (by decide) ?_
  refine lv_aload_n hx hb dJ7_append_9 rfl (lv_at hl 1 rfl) ?_
  refine tI (v := nI u.length) (uV 0 (rest := []) hF hE hS (fun _ z => absurd z id) (m_len l E s.heap.size a u) (lw_V q56 q38 q39 q4 q40) (hSt.recv hE) hSt.no hl.1 rfl dJ7_append_10 ⟨Nat.le_refl _, Nat.le_refl _⟩) ?_
  refine lv_istore_n (lv' := [(2, .int (nI u.length)), (0, .ref sb), (1, .ref a)]) hx hb dJ7_append_13 rfl hl (by decide) rfl (fun ls hl => ?_)
  refine lv_aload_n hx hb dJ7_append_14 rfl (lv_at hl 1 rfl) ?_
  refine lv_aload_n hx hb dJ7_append_15 rfl (lv_at hl 1 rfl) ?_
  refine va_get (D := E.1) (cl := vwCl) (ci := 1) (v := .int (nI n)) (C := RJ8) (T := TJ8) (N := 4) hx hb hF.2.2.2.2 in_J8 hF.2.2.2.1 hE.1 hP 0 rfl rfl 3 (by decide) (hF.2.2.2.2 _ q186) (fun _ h9 => h9) rfl dJ7_append_16 ?_
  refine lv_iload_n hx hb dJ7_append_19 rfl (lv_at hl 0 rfl) ?_
  refine lv_iadd hx hb dJ7_append_20 ?_
  refine w_to (nI (n + u.length)) (nI_add _ _) ?_
  refine tV (uU 1 (rest := []) hF hE hS (fun _ z => absurd z id) (m_J7_ens l E s.heap.size sb bv n cap g (n + u.length) hle (by omega)) RJ8 (lw_U q84 q563 qp0 q86 q13 q87) (va_recv hE.1 hP (ci := 1) (q0 := 0) rfl rfl) hP hl.1 rfl dJ7_append_21 ⟨Nat.le_refl _, Nat.le_refl _⟩) ?_
  refine lv_aload_n hx hb dJ7_append_24 rfl (lv_at hl 1 rfl) ?_
  refine lv_aload_n hx hb dJ7_append_25 rfl (lv_at hl 1 rfl) ?_
  refine va_get (D := E.1) (cl := vwCl) (ci := 1) (v := .int (nI n)) (C := RJ8) (T := TJ8) (N := 4) hx hb hF.2.2.2.2 in_J8 hF.2.2.2.1 hE.1 hP 0 rfl rfl 3 (by decide) (hF.2.2.2.2 _ q186) (fun _ h9 => h9) rfl dJ7_append_26 ?_
  refine lv_aload_n hx hb dJ7_append_29 rfl (lv_at hl 2 rfl) ?_
  refine tQW (uU 2 (rest := []) hF hE hS (a2A hD hS hA 0 1 rfl rfl) (m_J7_put l E s.heap.size sb bv n cap g a u hne hle hcap hfg) RJ8 (lw_U q150 q565 qp1 q152 q13 q153) (va_recv hE.1 hP (ci := 1) (q0 := 0) rfl rfl) ⟨hP, hSt⟩ hl.1 rfl dJ7_append_30 ⟨Nat.le_refl _, Nat.le_refl _⟩) hS (a2A hD hS hA 0 1 rfl rfl) (fun H_1 locs_1 hB hz_1 hk_1 hSn => ?_)
  obtain ⟨g1, hg1, hgp⟩ := hB
  obtain ⟨hP, hD⟩ := j_set2 hP hD 0 1 rfl rfl (by decide) hk_1 hg1
  have hS := hSn
  have hP : va_P E.1 vwCl [(sb, .inr (1, [.ref bv, .int 0, .int 0, .int (nI n)])), (bv, .inl (eB E, cap, .inl g1))] H_1 := hP
  have hD : va_D (A2 sb bv s.heap.size) [(sb, .inr (1, [.ref bv, .int 0, .int 0, .int (nI n)])), (bv, .inl (eB E, cap, .inl g1))] := hD
  refine lv_aload_n hx hb dJ7_append_33 rfl (lv_at hl 1 rfl) ?_
  refine lv_dup hx hb dJ7_append_34 rfl ?_
  refine va_get (D := E.1) (cl := vwCl) (ci := 1) (v := .int (nI n)) (C := RJ8) (T := TJ8) (N := 4) hx hb hF.2.2.2.2 in_J8 hF.2.2.2.1 hE.1 hP 0 rfl rfl 3 (by decide) (hF.2.2.2.2 _ q186) (fun _ h9 => h9) rfl dJ7_append_35 ?_
  refine lv_iload_n hx hb dJ7_append_38 rfl (lv_at hl 0 rfl) ?_
  refine lv_iadd hx hb dJ7_append_39 ?_
  refine w_to (nI (n + u.length)) (nI_add _ _) ?_
  refine va_put (D := E.1) (cl := vwCl) (ci := 1) (v := .int (nI (n + u.length))) (ty := .int) (C := RJ8) (T := TJ8) (N := 4) hx hb hF.2.2.2.2 in_J8 tyJ8 tyJ8_ok nmJ8 hF.2.2.2.1 hE.1 hP hD hS 0 rfl rfl 3 (by decide) (hF.2.2.2.2 _ q186) (fun _ h9 => h9) rfl (by decide +kernel) rfl rfl (Nat.le_of_ble_eq_true rfl) dJ7_append_40 (fun H_2 locs_2 hP hD hS => ?_)
  have hP : va_P E.1 vwCl [(sb, .inr (1, [.ref bv, .int 0, .int 0, .int (nI (n + u.length))])), (bv, .inl (eB E, cap, .inl g1))] H_2 := hP
  have hD : va_D (A2 sb bv s.heap.size) [(sb, .inr (1, [.ref bv, .int 0, .int 0, .int (nI (n + u.length))])), (bv, .inl (eB E, cap, .inl g1))] := hD
  refine lv_aload_n hx hb dJ7_append_43 rfl (lv_at hl 1 rfl) ?_
  exact z_QR hF hr hlk (Or.inl ⟨_, rfl⟩) hS ⟨rfl, g1, hP, hgp⟩ (by omega) (by omega) dJ7_append_44
set_option maxHeartbeats 4000000 in
/-- append_2 -/
theorem m_J8_app (l : Launch) (E : EvT) (sz : Nat) (sb bv n cap : Nat) (g : Nat → Int32) (a : Nat) (u : List Nat) (hne : sb ≠ bv) (hle : n + u.length ≤ cap) (hcap : cap ≤ 200) (hfg : sb_Fit g) : Met l yJ8_append_2 (ws_ yJ8_append_2 cJ8_append_2 2 (some (.object "java/lang/StringBuilder"))) ({ frames := 4, cells := 0, slots := 0, locals := 127 }) (PcE [.ref sb, .ref a] E (A2 sb bv sz) sz (fun H => va_P E.1 vwCl (sbW E sb bv n cap g) H ∧ Str E (A2 sb bv sz) H a u)) (QR (fun r1 H1 => r1 = sb ∧ ∃ g1 : Nat → Int32, va_P E.1 vwCl (sbW E sb bv (n + u.length) cap g1) H1 ∧ (∀ j, j < n → g1 j = g j) ∧ (∀ j, j < u.length → g1 (n + j) = tb u j) ∧ sb_Fit g1) (A2 sb bv sz)) 0 0 (A2 sb bv sz) := by
  refine ofE RJ8 rfl (by decide) (Nat.le_of_ble_eq_true rfl) ?_
  intro pp ee s mm bw me cd ls hF hr hlk hnm hsz hE hX hl
  subst hsz
  have hx := hF.1
  have hb := hF.2.1
  have hS : va_S (A2 sb bv s.heap.size) s.heap s.heap [] := va_S.rf
  have hl : lv_has ls 2 [(0, .ref sb), (1, .ref a)] := hl
  have hA : ∀ q, s.heap.size ≤ q → (A2 sb bv s.heap.size) q := fun _ h => Or.inr (Or.inr h)
  obtain ⟨hP, hSt⟩ := hX
  have hD := d_two (A := A2 sb bv s.heap.size) (a := sb) (b := bv) (e := .inr (1, [.ref bv, .int 0, .int 0, .int (nI n)])) (e' := .inl (eB E, cap, .inl g)) (Or.inl rfl) (Or.inr (Or.inl rfl)) hne
  have hP : va_P E.1 vwCl [(sb, .inr (1, [.ref bv, .int 0, .int 0, .int (nI n)])), (bv, .inl (eB E, cap, .inl g))] s.heap := hP
  have hD : va_D (A2 sb bv s.heap.size) [(sb, .inr (1, [.ref bv, .int 0, .int 0, .int (nI n)])), (bv, .inl (eB E, cap, .inl g))] := hD
  refine lv_aload_n hx hb dJ8_append_2_0 rfl (lv_at hl 0 rfl) ?_
  refine lv_aload_n hx hb dJ8_append_2_1 rfl (lv_at hl 1 rfl) ?_
  refine tQR (uSU 1 (rest := []) hF hE hS (a2A hD hS hA 0 1 rfl rfl) (m_J7_app l E s.heap.size sb bv n cap g a u hne hle hcap hfg) (hE.1.1 1 _ rfl).2 (lw_SU q77 q69 q78 q68 q13 q79) (va_recv hE.1 hP (ci := 1) (q0 := 0) rfl rfl) ⟨hP, hSt⟩ hl.1 rfl dJ8_append_2_2 ⟨Nat.le_refl _, Nat.le_refl _⟩) hS (a2A hD hS hA 0 1 rfl rfl) (fun r1 H_1 locs_1 hB hz_1 hk_1 hSn => ?_)
  obtain ⟨hr1, hg1⟩ := hB
  have hS := hSn
  refine lv_pop hx hb dJ8_append_2_5 rfl ?_
  refine lv_aload_n hx hb dJ8_append_2_6 rfl (lv_at hl 0 rfl) ?_
  exact z_QR hF hr hlk (Or.inl ⟨_, rfl⟩) hS ⟨rfl, hg1⟩ (by omega) (by omega) dJ8_append_2_7
set_option maxHeartbeats 4000000 in
/-- append -/
theorem m_J8_appb (l : Launch) (E : EvT) (sz : Nat) (sb bv n cap : Nat) (g : Nat → Int32) (a : Nat) (u : List Nat) (hne : sb ≠ bv) (hle : n + u.length ≤ cap) (hcap : cap ≤ 200) (hfg : sb_Fit g) : Met l yJ8_append (ws_ yJ8_append cJ8_append 2 (some (.object "java/lang/AbstractStringBuilder"))) ({ frames := 5, cells := 0, slots := 0, locals := 148 }) (PcE [.ref sb, .ref a] E (A2 sb bv sz) sz (fun H => va_P E.1 vwCl (sbW E sb bv n cap g) H ∧ Str E (A2 sb bv sz) H a u)) (QR (fun r1 H1 => r1 = sb ∧ ∃ g1 : Nat → Int32, va_P E.1 vwCl (sbW E sb bv (n + u.length) cap g1) H1 ∧ (∀ j, j < n → g1 j = g j) ∧ (∀ j, j < u.length → g1 (n + j) = tb u j) ∧ sb_Fit g1) (A2 sb bv sz)) 0 0 (A2 sb bv sz) := by
  refine ofE RJ8 rfl (by decide) (Nat.le_of_ble_eq_true rfl) ?_
  intro pp ee s mm bw me cd ls hF hr hlk hnm hsz hE hX hl
  subst hsz
  have hx := hF.1
  have hb := hF.2.1
  have hS : va_S (A2 sb bv s.heap.size) s.heap s.heap [] := va_S.rf
  have hl : lv_has ls 2 [(0, .ref sb), (1, .ref a)] := hl
  have hA : ∀ q, s.heap.size ≤ q → (A2 sb bv s.heap.size) q := fun _ h => Or.inr (Or.inr h)
  obtain ⟨hP, hSt⟩ := hX
  have hD := d_two (A := A2 sb bv s.heap.size) (a := sb) (b := bv) (e := .inr (1, [.ref bv, .int 0, .int 0, .int (nI n)])) (e' := .inl (eB E, cap, .inl g)) (Or.inl rfl) (Or.inr (Or.inl rfl)) hne
  have hP : va_P E.1 vwCl [(sb, .inr (1, [.ref bv, .int 0, .int 0, .int (nI n)])), (bv, .inl (eB E, cap, .inl g))] s.heap := hP
  have hD : va_D (A2 sb bv s.heap.size) [(sb, .inr (1, [.ref bv, .int 0, .int 0, .int (nI n)])), (bv, .inl (eB E, cap, .inl g))] := hD
  refine lv_aload_n hx hb dJ8_append_0 rfl (lv_at hl 0 rfl) ?_
  refine lv_aload_n hx hb dJ8_append_1 rfl (lv_at hl 1 rfl) ?_
  refine tQR (uV 1 (rest := []) hF hE hS (a2A hD hS hA 0 1 rfl rfl) (m_J8_app l E s.heap.size sb bv n cap g a u hne hle hcap hfg) (lw_V q73 q74 q75 q14 q76) (va_recv hE.1 hP (ci := 1) (q0 := 0) rfl rfl) ⟨hP, hSt⟩ hl.1 rfl dJ8_append_2 ⟨Nat.le_refl _, Nat.le_refl _⟩) hS (a2A hD hS hA 0 1 rfl rfl) (fun r1 H_1 locs_1 hB hz_1 hk_1 hSn => ?_)
  obtain ⟨hr1, hg1⟩ := hB
  have hS := hSn
  exact z_QR hF hr hlk (Or.inl ⟨_, rfl⟩) hS ⟨hr1, hg1⟩ (by omega) (by omega) dJ8_append_5
set_option maxHeartbeats 4000000 in
/-- append_2 -/
theorem m_J7_apc (l : Launch) (E : EvT) (sz : Nat) (sb bv n cap : Nat) (g : Nat → Int32) (c : Nat) (hc : c < 128) (hne : sb ≠ bv) (hle : n + 1 ≤ cap) (hcap : cap ≤ 200) : Met l yJ7_append_2 (ws_ yJ7_append_2 cJ7_append_2 2 (some (.object "java/lang/AbstractStringBuilder"))) ({ frames := 1, cells := 0, slots := 0, locals := 22 }) (PcE [.ref sb, .int (nI c)] E (A2 sb bv sz) sz (fun H => va_P E.1 vwCl (sbW E sb bv n cap g) H)) (QR (fun r1 H1 => r1 = sb ∧ va_P E.1 vwCl (sbW E sb bv (n + 1) cap (upd g n (nI c))) H1) (A2 sb bv sz)) 0 0 (A2 sb bv sz) := by
  refine ofE RJ7 rfl (by decide) (Nat.le_of_ble_eq_true rfl) ?_
  intro pp ee s mm bw me cd ls hF hr hlk hnm hsz hE hX hl
  subst hsz
  have hx := hF.1
  have hb := hF.2.1
  have hS : va_S (A2 sb bv s.heap.size) s.heap s.heap [] := va_S.rf
  have hl : lv_has ls 2 [(0, .ref sb), (1, .int (nI c))] := hl
  have hA : ∀ q, s.heap.size ≤ q → (A2 sb bv s.heap.size) q := fun _ h => Or.inr (Or.inr h)
  have hP := hX
  have hD := d_two (A := A2 sb bv s.heap.size) (a := sb) (b := bv) (e := .inr (1, [.ref bv, .int 0, .int 0, .int (nI n)])) (e' := .inl (eB E, cap, .inl g)) (Or.inl rfl) (Or.inr (Or.inl rfl)) hne
  have hP : va_P E.1 vwCl [(sb, .inr (1, [.ref bv, .int 0, .int 0, .int (nI n)])), (bv, .inl (eB E, cap, .inl g))] s.heap := hP
  have hD : va_D (A2 sb bv s.heap.size) [(sb, .inr (1, [.ref bv, .int 0, .int 0, .int (nI n)])), (bv, .inl (eB E, cap, .inl g))] := hD
  refine lv_aload_n hx hb dJ7_append_2_0 rfl (lv_at hl 0 rfl) ?_
  refine lv_aload_n hx hb dJ7_append_2_1 rfl (lv_at hl 0 rfl) ?_
  refine va_get (D := E.1) (cl := vwCl) (ci := 1) (v := .int (nI n)) (C := RJ8) (T := TJ8) (N := 4) hx hb hF.2.2.2.2 in_J8 hF.2.2.2.1 hE.1 hP 0 rfl rfl 3 (by decide) (hF.2.2.2.2 _ q186) (fun _ h9 => h9) rfl dJ7_append_2_2 ?_
  refine lv_iconst (v := nI 1) hx hb dJ7_append_2_5 (by decide) ?_
  refine lv_iadd hx hb dJ7_append_2_6 ?_
  refine w_to (nI (n + 1)) (nI_add _ _) ?_
  refine tV (uU 1 (rest := []) hF hE hS (fun _ z => absurd z id) (m_J7_ens l E s.heap.size sb bv n cap g (n + 1) hle (by omega)) RJ8 (lw_U q84 q563 qp0 q86 q13 q87) (va_recv hE.1 hP (ci := 1) (q0 := 0) rfl rfl) hP hl.1 rfl dJ7_append_2_7 ⟨Nat.le_refl _, Nat.le_refl _⟩) ?_
  refine lv_aload_n hx hb dJ7_append_2_10 rfl (lv_at hl 0 rfl) ?_
  refine tI (v := nI 1) (uU 0 (rest := []) hF hE hS (fun _ z => absurd z id) (m_J7_isL l E s.heap.size sb bv n cap g) RJ8 (lw_U q118 q120 q121 q119 q13 q122) (va_recv hE.1 hP (ci := 1) (q0 := 0) rfl rfl) hP hl.1 rfl dJ7_append_2_11 ⟨Nat.le_refl _, Nat.le_refl _⟩) ?_
  refine lv_if_eq (tgt := 45) hx hb dJ7_append_2_14 (by decide) (fun c_1 => absurd c_1 (by decide)) (fun c_1 => ?_)
  refine lv_iload_n hx hb dJ7_append_2_17 rfl (lv_at hl 1 rfl) ?_
  refine tI (v := nI 1) (uS 1 (rest := []) hF hE hS (fun _ z => absurd z id) (m_can l E s.heap.size c hc) (lw_S q206 q207 q6 q208) trivial hl.1 rfl dJ7_append_2_18 ⟨Nat.le_refl _, Nat.le_refl _⟩) ?_
  refine lv_if_eq (tgt := 45) hx hb dJ7_append_2_21 (by decide) (fun c_2 => absurd c_2 (by decide)) (fun c_2 => ?_)
  refine lv_aload_n hx hb dJ7_append_2_24 rfl (lv_at hl 0 rfl) ?_
  refine va_get (D := E.1) (cl := vwCl) (ci := 1) (v := .ref bv) (C := RJ8) (T := TJ8) (N := 4) hx hb hF.2.2.2.2 in_J8 hF.2.2.2.1 hE.1 hP 0 rfl rfl 0 (by decide) (hF.2.2.2.2 _ q183) (fun _ h9 => h9) rfl dJ7_append_2_25 ?_
  refine lv_aload_n hx hb dJ7_append_2_28 rfl (lv_at hl 0 rfl) ?_
  refine lv_dup hx hb dJ7_append_2_29 rfl ?_
  refine va_get (D := E.1) (cl := vwCl) (ci := 1) (v := .int (nI n)) (C := RJ8) (T := TJ8) (N := 4) hx hb hF.2.2.2.2 in_J8 hF.2.2.2.1 hE.1 hP 0 rfl rfl 3 (by decide) (hF.2.2.2.2 _ q186) (fun _ h9 => h9) rfl dJ7_append_2_30 ?_
  refine lv_dup_x1 hx hb dJ7_append_2_33 rfl rfl ?_
  refine lv_iconst (v := nI 1) hx hb dJ7_append_2_34 (by decide) ?_
  refine lv_iadd hx hb dJ7_append_2_35 ?_
  refine w_to (nI (n + 1)) (nI_add _ _) ?_
  refine va_put (D := E.1) (cl := vwCl) (ci := 1) (v := .int (nI (n + 1))) (ty := .int) (C := RJ8) (T := TJ8) (N := 4) hx hb hF.2.2.2.2 in_J8 tyJ8 tyJ8_ok nmJ8 hF.2.2.2.1 hE.1 hP hD hS 0 rfl rfl 3 (by decide) (hF.2.2.2.2 _ q186) (fun _ h9 => h9) rfl (by decide +kernel) rfl rfl (Nat.le_of_ble_eq_true rfl) dJ7_append_2_36 (fun H_3 locs_3 hP hD hS => ?_)
  have hP : va_P E.1 vwCl [(sb, .inr (1, [.ref bv, .int 0, .int 0, .int (nI (n + 1))])), (bv, .inl (eB E, cap, .inl g))] H_3 := hP
  have hD : va_D (A2 sb bv s.heap.size) [(sb, .inr (1, [.ref bv, .int 0, .int 0, .int (nI (n + 1))])), (bv, .inl (eB E, cap, .inl g))] := hD
  refine lv_iload_n hx hb dJ7_append_2_39 rfl (lv_at hl 1 rfl) ?_
  refine lv_i2b (v := nI c) hx hb dJ7_append_2_40 (c_i2b _ hc) ?_
  refine r_bst hF hE hP hD hS 1 rfl (j := n) (by omega) (by omega) (c_vb _ hc) dJ7_append_2_41 (fun H_4 locs_4 hP hD hS => ?_)
  have hP : va_P E.1 vwCl [(sb, .inr (1, [.ref bv, .int 0, .int 0, .int (nI (n + 1))])), (bv, .inl (eB E, cap, .inl (upd g n (nI c))))] H_4 := hP
  have hD : va_D (A2 sb bv s.heap.size) [(sb, .inr (1, [.ref bv, .int 0, .int 0, .int (nI (n + 1))])), (bv, .inl (eB E, cap, .inl (upd g n (nI c))))] := hD
  refine lv_goto (tgt := 75) hx hb dJ7_append_2_42 (by decide) ?_
  refine lv_aload_n hx hb dJ7_append_2_75 rfl (lv_at hl 0 rfl) ?_
  exact z_QR hF hr hlk (Or.inl ⟨_, rfl⟩) hS ⟨rfl, hP⟩ (by omega) (by omega) dJ7_append_2_76
set_option maxHeartbeats 4000000 in
/-- append_3 -/
theorem m_J8_apc (l : Launch) (E : EvT) (sz : Nat) (sb bv n cap : Nat) (g : Nat → Int32) (c : Nat) (hc : c < 128) (hne : sb ≠ bv) (hle : n + 1 ≤ cap) (hcap : cap ≤ 200) : Met l yJ8_append_3 (ws_ yJ8_append_3 cJ8_append_3 2 (some (.object "java/lang/StringBuilder"))) ({ frames := 2, cells := 0, slots := 0, locals := 43 }) (PcE [.ref sb, .int (nI c)] E (A2 sb bv sz) sz (fun H => va_P E.1 vwCl (sbW E sb bv n cap g) H)) (QR (fun r1 H1 => r1 = sb ∧ va_P E.1 vwCl (sbW E sb bv (n + 1) cap (upd g n (nI c))) H1) (A2 sb bv sz)) 0 0 (A2 sb bv sz) := by
  refine ofE RJ8 rfl (by decide) (Nat.le_of_ble_eq_true rfl) ?_
  intro pp ee s mm bw me cd ls hF hr hlk hnm hsz hE hX hl
  subst hsz
  have hx := hF.1
  have hb := hF.2.1
  have hS : va_S (A2 sb bv s.heap.size) s.heap s.heap [] := va_S.rf
  have hl : lv_has ls 2 [(0, .ref sb), (1, .int (nI c))] := hl
  have hA : ∀ q, s.heap.size ≤ q → (A2 sb bv s.heap.size) q := fun _ h => Or.inr (Or.inr h)
  have hP := hX
  have hD := d_two (A := A2 sb bv s.heap.size) (a := sb) (b := bv) (e := .inr (1, [.ref bv, .int 0, .int 0, .int (nI n)])) (e' := .inl (eB E, cap, .inl g)) (Or.inl rfl) (Or.inr (Or.inl rfl)) hne
  have hP : va_P E.1 vwCl [(sb, .inr (1, [.ref bv, .int 0, .int 0, .int (nI n)])), (bv, .inl (eB E, cap, .inl g))] s.heap := hP
  have hD : va_D (A2 sb bv s.heap.size) [(sb, .inr (1, [.ref bv, .int 0, .int 0, .int (nI n)])), (bv, .inl (eB E, cap, .inl g))] := hD
  refine lv_aload_n hx hb dJ8_append_3_0 rfl (lv_at hl 0 rfl) ?_
  refine lv_iload_n hx hb dJ8_append_3_1 rfl (lv_at hl 1 rfl) ?_
  refine tQR (uSU 1 (rest := []) hF hE hS (a2A hD hS hA 0 1 rfl rfl) (m_J7_apc l E s.heap.size sb bv n cap g c hc hne hle hcap) (hE.1.1 1 _ rfl).2 (lw_SU q203 q568 q78 q204 q13 q205) (va_recv hE.1 hP (ci := 1) (q0 := 0) rfl rfl) hP hl.1 rfl dJ8_append_3_2 ⟨Nat.le_refl _, Nat.le_refl _⟩) hS (a2A hD hS hA 0 1 rfl rfl) (fun r1 H_1 locs_1 hB hz_1 hk_1 hSn => ?_)
  obtain ⟨hr1, hg1⟩ := hB
  have hS := hSn
  refine lv_pop hx hb dJ8_append_3_5 rfl ?_
  refine lv_aload_n hx hb dJ8_append_3_6 rfl (lv_at hl 0 rfl) ?_
  exact z_QR hF hr hlk (Or.inl ⟨_, rfl⟩) hS ⟨rfl, hg1⟩ (by omega) (by omega) dJ8_append_3_7
set_option maxHeartbeats 4000000 in
/-- init -/
theorem m_J7_ini (l : Launch) (E : EvT) (sz : Nat) (o a : Nat) (t : List Nat) : Met l yJ7_init (ws_ yJ7_init cJ7_init 5 none) ({ frames := 6, cells := 1, slots := 100, locals := 169 }) (PcE [.ref o, .ref a] E (Ad o sz) sz (fun H => va_P E.1 vwCl [(o, .inr (1, [.null, .int 0, .int 0, .int 0]))] H ∧ Str E (Ad o sz) H a t)) (QW (fun H1 => ∃ (bv : Nat) (g1 : Nat → Int32), va_P E.1 vwCl (sbW E o bv t.length (t.length + 16) g1) H1 ∧ va_D (Ad o sz) (sbW E o bv t.length (t.length + 16) g1) ∧ (∀ j, j < t.length → g1 j = tb t j) ∧ sb_Fit g1) (Ad o sz)) 1 100 (Ad o sz) := by
  refine ofE RJ7 rfl (by decide) (Nat.le_of_ble_eq_true rfl) ?_
  intro pp ee s mm bw me cd ls hF hr hlk hnm hsz hE hX hl
  subst hsz
  have hx := hF.1
  have hb := hF.2.1
  have hS : va_S (Ad o s.heap.size) s.heap s.heap [] := va_S.rf
  have hl : lv_has ls 5 [(0, .ref o), (1, .ref a)] := hl
  have hA : ∀ q, s.heap.size ≤ q → (Ad o s.heap.size) q := fun _ h => Or.inr h
  obtain ⟨hP, hSt⟩ := hX
  have hX0 := hSt
  obtain ⟨hT, v, hO, hR⟩ := hSt
  have h64 := hT.len
  have hD := d_one (A := Ad o s.heap.size) (a := o) (e := .inr (1, [.null, .int 0, .int 0, .int 0])) (Or.inl rfl)
  have hP : va_P E.1 vwCl [(o, .inr (1, [.null, .int 0, .int 0, .int 0]))] s.heap := hP
  have hD : va_D (Ad o s.heap.size) [(o, .inr (1, [.null, .int 0, .int 0, .int 0]))] := hD
  refine lv_aload_n hx hb dJ7_init_0 rfl (lv_at hl 0 rfl) ?_
  refine W.objInit hx hb hF.2.2.2.1 (hF.2.2.2.2 _ q55) (hF.2.2.2.2 _ q22) (hF.2.2.2.2 _ q23) rfl (by rw [hF.2.2.1]; exact hl.1) rfl dJ7_init_1 (Nat.le_of_ble_eq_true rfl) (Nat.le_of_ble_eq_true rfl) ?_
  refine W.eq (g2 := F0 mm 4 ls []) rfl ?_
  refine lv_aload_n hx hb dJ7_init_4 rfl (lv_at hl 1 rfl) ?_
  refine tI (v := nI t.length) (uV 0 (rest := []) hF hE hS (fun _ z => absurd z id) (m_len l E s.heap.size a t) (lw_V q56 q38 q39 q4 q40) (so_recv hE hO) hX0.no hl.1 rfl dJ7_init_5 ⟨by show _ ≤ 1; omega, by show _ ≤ 100; omega⟩) ?_
  refine lv_istore_n (lv' := [(2, .int (nI t.length)), (0, .ref o), (1, .ref a)]) hx hb dJ7_init_8 rfl hl (by decide) rfl (fun ls hl => ?_)
  refine lv_iload_n hx hb dJ7_init_9 rfl (lv_at hl 0 rfl) ?_
  refine lv_ldc (v := 2147483631) hx hb hF.2.2.2.1 (hF.2.2.2.2 _ q57) dJ7_init_10 ?_
  refine w_to (nI 2147483631) (by decide) ?_
  refine lv_icmp_ge (tgt := 22) hx hb dJ7_init_12 (by decide) (fun c_1 => absurd c_1 (fun z => absurd ((nI_leI (by omega) (by omega)).mp z) (by omega))) (fun c_1 => ?_)
  refine lv_iload_n hx hb dJ7_init_15 rfl (lv_at hl 0 rfl) ?_
  refine lv_bipush (v := nI 16) hx hb dJ7_init_16 (by decide) ?_
  refine lv_iadd hx hb dJ7_init_18 ?_
  refine w_to (nI (t.length + 16)) (nI_add _ _) ?_
  refine lv_goto (tgt := 24) hx hb dJ7_init_19 (by decide) ?_
  refine lv_istore_n (lv' := [(3, .int (nI (t.length + 16))), (2, .int (nI t.length)), (0, .ref o), (1, .ref a)]) hx hb dJ7_init_24 rfl hl (by decide) rfl (fun ls hl => ?_)
  refine lv_aload_n hx hb dJ7_init_25 rfl (lv_at hl 3 rfl) ?_
  refine tI (v := 0) (uV 0 (rest := []) hF hE hS (fun _ z => absurd z id) (m_coder l E s.heap.size a v) (lw_V q59 q42 q43 q4 q44) (so_recv hE hO) hO.no hl.1 rfl dJ7_init_26 ⟨by show _ ≤ 1; omega, by show _ ≤ 100; omega⟩) ?_
  refine lv_istore (lv' := [(4, .int 0), (3, .int (nI (t.length + 16))), (2, .int (nI t.length)), (0, .ref o), (1, .ref a)]) hx hb dJ7_init_29 hl (by decide) rfl (fun ls hl => ?_)
  refine lv_aload_n hx hb dJ7_init_31 rfl (lv_at hl 3 rfl) ?_
  refine lv_iload hx hb dJ7_init_32 (lv_at hl 0 rfl) ?_
  refine va_put (D := E.1) (cl := vwCl) (ci := 1) (v := .int 0) (ty := .byte) (C := RJ8) (T := TJ8) (N := 4) hx hb hF.2.2.2.2 in_J8 tyJ8 tyJ8_ok nmJ8 hF.2.2.2.1 hE.1 hP hD hS 0 rfl rfl 1 (by decide) (hF.2.2.2.2 _ q184) (fun _ h9 => h9) rfl (by decide +kernel) rfl rfl (Nat.le_of_ble_eq_true rfl) dJ7_init_34 (fun H_2 locs_2 hP hD hS => ?_)
  have hP : va_P E.1 vwCl [(o, .inr (1, [.null, .int 0, .int 0, .int 0]))] H_2 := hP
  have hD : va_D (Ad o s.heap.size) [(o, .inr (1, [.null, .int 0, .int 0, .int 0]))] := hD
  refine lv_aload_n hx hb dJ7_init_37 rfl (lv_at hl 3 rfl) ?_
  refine lv_iload hx hb dJ7_init_38 (lv_at hl 0 rfl) ?_
  refine lv_if_ne (tgt := 49) hx hb dJ7_init_40 (by decide) (fun c_3 => absurd rfl c_3) (fun c_3 => ?_)
  refine lv_iload_n hx hb dJ7_init_43 rfl (lv_at hl 1 rfl) ?_
  refine r_new (cX := eB E) (atype := .byte) hF hE q32 (hE.1.2 0 _ rfl).2 rfl hP hD hS hA (N' := (t.length + 16)) (by omega) (by decide) (by show _ ≤ 1; omega) (by show _ ≤ 100; omega) dJ7_init_44 (fun q H_4 hq_q hP hD hS hz_4 hk_4 => ?_)
  have hP : va_P E.1 vwCl [(o, .inr (1, [.null, .int 0, .int 0, .int 0])), (q, .inl (eB E, (t.length + 16), .inl (fun _ => 0)))] H_4 := hP
  have hD : va_D (Ad o s.heap.size) [(o, .inr (1, [.null, .int 0, .int 0, .int 0])), (q, .inl (eB E, (t.length + 16), .inl (fun _ => 0)))] := hD
  refine lv_goto (tgt := 53) hx hb dJ7_init_46 (by decide) ?_
  refine va_put (D := E.1) (cl := vwCl) (ci := 1) (v := .ref q) (ty := (.array .byte)) (C := RJ8) (T := TJ8) (N := 4) hx hb hF.2.2.2.2 in_J8 tyJ8 tyJ8_ok nmJ8 hF.2.2.2.1 hE.1 hP hD hS 0 rfl rfl 0 (by decide) (hF.2.2.2.2 _ q183) (fun _ h9 => h9) rfl (by decide +kernel) rfl rfl (Nat.le_of_ble_eq_true rfl) dJ7_init_53 (fun H_5 locs_5 hP hD hS => ?_)
  have hP : va_P E.1 vwCl [(o, .inr (1, [.ref q, .int 0, .int 0, .int 0])), (q, .inl (eB E, (t.length + 16), .inl (fun _ => 0)))] H_5 := hP
  have hD : va_D (Ad o s.heap.size) [(o, .inr (1, [.ref q, .int 0, .int 0, .int 0])), (q, .inl (eB E, (t.length + 16), .inl (fun _ => 0)))] := hD
  refine lv_aload_n hx hb dJ7_init_56 rfl (lv_at hl 3 rfl) ?_
  refine lv_aload_n hx hb dJ7_init_57 rfl (lv_at hl 4 rfl) ?_
  have hoq : o ≠ q := d_ne hD 0 1 rfl rfl (by decide)
  refine tQR (uO 1 (rest := []) hF hE hS (a2A hD hS hA 0 1 rfl rfl) (m_J8_appb l E H_5.size o q 0 (t.length + 16) (fun _ => 0) a t hoq (by omega) (by omega) sb_fit0) RJ8 yJ7_append (lw_O q67 q69 q68 q70 q71 q14 q72) q79 (va_recv hE.1 hP (ci := 1) (q0 := 0) rfl rfl) ⟨hP, hX0.at hS (a2A hD hS hA 0 1 rfl rfl)⟩ hl.1 rfl dJ7_init_58 ⟨by show _ ≤ 1; omega, by show _ ≤ 100; omega⟩) hS (a2A hD hS hA 0 1 rfl rfl) (fun r1 H_6 locs_6 hB hz_6 hk_6 hSn => ?_)
  simp only [Nat.zero_add] at hB
  obtain ⟨hr1, g1, hg1, hga, hgb, hgf⟩ := hB
  obtain ⟨hP, hD⟩ := j_set2 hP hD 0 1 rfl rfl (by decide) hk_6 hg1
  have hS := hSn
  have hP : va_P E.1 vwCl [(o, .inr (1, [.ref q, .int 0, .int 0, .int (nI t.length)])), (q, .inl (eB E, (t.length + 16), .inl g1))] H_6 := hP
  have hD : va_D (Ad o s.heap.size) [(o, .inr (1, [.ref q, .int 0, .int 0, .int (nI t.length)])), (q, .inl (eB E, (t.length + 16), .inl g1))] := hD
  refine lv_pop hx hb dJ7_init_61 rfl ?_
  exact z_QW hF hr hlk hS ⟨q, g1, hP, hD, hgb, hgf⟩ (by omega) (by omega) dJ7_init_62
set_option maxHeartbeats 4000000 in
/-- init -/
theorem m_J8_ini (l : Launch) (E : EvT) (sz : Nat) (o a : Nat) (t : List Nat) : Met l yJ8_init (ws_ yJ8_init cJ8_init 2 none) ({ frames := 7, cells := 1, slots := 100, locals := 193 }) (PcE [.ref o, .ref a] E (Ad o sz) sz (fun H => va_P E.1 vwCl [(o, .inr (1, [.null, .int 0, .int 0, .int 0]))] H ∧ Str E (Ad o sz) H a t)) (QW (fun H1 => ∃ (bv : Nat) (g1 : Nat → Int32), va_P E.1 vwCl (sbW E o bv t.length (t.length + 16) g1) H1 ∧ va_D (Ad o sz) (sbW E o bv t.length (t.length + 16) g1) ∧ (∀ j, j < t.length → g1 j = tb t j) ∧ sb_Fit g1) (Ad o sz)) 1 100 (Ad o sz) := by
  refine ofE RJ8 rfl (by decide) (Nat.le_of_ble_eq_true rfl) ?_
  intro pp ee s mm bw me cd ls hF hr hlk hnm hsz hE hX hl
  subst hsz
  have hx := hF.1
  have hb := hF.2.1
  have hS : va_S (Ad o s.heap.size) s.heap s.heap [] := va_S.rf
  have hl : lv_has ls 2 [(0, .ref o), (1, .ref a)] := hl
  have hA : ∀ q, s.heap.size ≤ q → (Ad o s.heap.size) q := fun _ h => Or.inr h
  obtain ⟨hP, hSt⟩ := hX
  have hD := d_one (A := Ad o s.heap.size) (a := o) (e := .inr (1, [.null, .int 0, .int 0, .int 0])) (Or.inl rfl)
  have hP : va_P E.1 vwCl [(o, .inr (1, [.null, .int 0, .int 0, .int 0]))] s.heap := hP
  have hD : va_D (Ad o s.heap.size) [(o, .inr (1, [.null, .int 0, .int 0, .int 0]))] := hD
  refine lv_aload_n hx hb dJ8_init_0 rfl (lv_at hl 0 rfl) ?_
  refine lv_aload_n hx hb dJ8_init_1 rfl (lv_at hl 1 rfl) ?_
  refine tQW (uI 1 (rest := []) hF hE hS (adA hD hS hA 0 rfl) (m_J7_ini l E s.heap.size o a t) q13 q52 q53 q54 ⟨hP, hSt⟩ hl.1 rfl dJ8_init_2 ⟨by show _ ≤ 1; omega, by show _ ≤ 100; omega⟩) hS (adA hD hS hA 0 rfl) (fun H_1 locs_1 hB hz_1 hk_1 hSn => ?_)
  have hS := hSn
  exact z_QW hF hr hlk hS hB (by omega) (by omega) dJ8_init_5
set_option maxHeartbeats 4000000 in
/-- init_2 -/
theorem m_J0_in2 (l : Launch) (E : EvT) (sz : Nat) (o sb bv n cap : Nat) (g : Nat → Int32) (h1 : sb ≠ o) (h2 : bv ≠ o) (hn : n ≤ cap) (hcap : cap ≤ 200) (hfg : sb_Fit g) : Met l yJ0_init_2 (ws_ yJ0_init_2 cJ0_init_2 5 none) ({ frames := 3, cells := 1, slots := 200, locals := 106 }) (PcE [.ref o, .ref sb, .null] E (Ad o sz) sz (fun H => va_P E.1 vwCl [(o, .inr (0, [.null, .int 0, .int 0, .int 0]))] H ∧ va_P E.1 vwCl (sbW E sb bv n cap g) H)) (QW (fun H1 => ∃ (v1 : Nat) (g1 : Nat → Int32), va_P E.1 vwCl [(o, .inr (0, [.ref v1, .int 0, .int 0, .int 0])), (v1, .inl (eB E, n, .inl g1))] H1 ∧ va_D (Ad o sz) [(o, .inr (0, [.ref v1, .int 0, .int 0, .int 0])), (v1, .inl (eB E, n, .inl g1))] ∧ ∀ j, j < n → g1 j = g j) (Ad o sz)) 1 200 (Ad o sz) := by
  refine ofE RJ0 rfl (by decide) (Nat.le_of_ble_eq_true rfl) ?_
  intro pp ee s mm bw me cd ls hF hr hlk hnm hsz hE hX hl
  subst hsz
  have hx := hF.1
  have hb := hF.2.1
  have hS : va_S (Ad o s.heap.size) s.heap s.heap [] := va_S.rf
  have hl : lv_has ls 5 [(0, .ref o), (1, .ref sb), (2, .null)] := hl
  have hA : ∀ q, s.heap.size ≤ q → (Ad o s.heap.size) q := fun _ h => Or.inr h
  obtain ⟨hP, hQ⟩ := hX
  have hD := d_one (A := Ad o s.heap.size) (a := o) (e := .inr (0, [.null, .int 0, .int 0, .int 0])) (Or.inl rfl)
  have hP : va_P E.1 vwCl [(o, .inr (0, [.null, .int 0, .int 0, .int 0]))] s.heap := hP
  have hD : va_D (Ad o s.heap.size) [(o, .inr (0, [.null, .int 0, .int 0, .int 0]))] := hD
  refine lv_aload_n hx hb dJ0_init_2_0 rfl (lv_at hl 0 rfl) ?_
  refine W.objInit hx hb hF.2.2.2.1 (hF.2.2.2.2 _ q233) (hF.2.2.2.2 _ q22) (hF.2.2.2.2 _ q23) rfl (by rw [hF.2.2.1]; exact hl.1) rfl dJ0_init_2_1 (Nat.le_of_ble_eq_true rfl) (Nat.le_of_ble_eq_true rfl) ?_
  refine W.eq (g2 := F0 mm 4 ls []) rfl ?_
  refine lv_aload_n hx hb dJ0_init_2_4 rfl (lv_at hl 1 rfl) ?_
  refine tR (v := bv) (uU 0 (rest := []) hF hE hS (fun _ z => absurd z id) (m_J7_val l E s.heap.size sb bv n cap g) RJ8 (lw_U q234 q236 q237 q235 q13 q238) (va_recv hE.1 hQ (ci := 1) (q0 := 0) rfl rfl) hQ hl.1 rfl dJ0_init_2_5 ⟨by show _ ≤ 1; omega, by show _ ≤ 200; omega⟩) ?_
  refine lv_astore_n (lv' := [(3, .ref bv), (0, .ref o), (1, .ref sb), (2, .null)]) hx hb dJ0_init_2_8 rfl hl (by decide) rfl (fun ls hl => ?_)
  refine lv_aload_n hx hb dJ0_init_2_9 rfl (lv_at hl 2 rfl) ?_
  refine tI (v := nI n) (uO 0 (rest := []) hF hE hS (fun _ z => absurd z id) (m_J8_len l E s.heap.size sb bv n cap g) RJ8 yJ7_length (lw_O q239 q241 q240 q242 q243 q14 q244) q246 (va_recv hE.1 hQ (ci := 1) (q0 := 0) rfl rfl) hQ hl.1 rfl dJ0_init_2_10 ⟨by show _ ≤ 1; omega, by show _ ≤ 200; omega⟩) ?_
  refine lv_istore (lv' := [(4, .int (nI n)), (3, .ref bv), (0, .ref o), (1, .ref sb), (2, .null)]) hx hb dJ0_init_2_13 hl (by decide) rfl (fun ls hl => ?_)
  refine lv_aload_n hx hb dJ0_init_2_15 rfl (lv_at hl 3 rfl) ?_
  refine tI (v := nI 1) (uU 0 (rest := []) hF hE hS (fun _ z => absurd z id) (m_J7_isL l E s.heap.size sb bv n cap g) RJ8 (lw_U q247 q120 q121 q119 q13 q122) (va_recv hE.1 hQ (ci := 1) (q0 := 0) rfl rfl) hQ hl.1 rfl dJ0_init_2_16 ⟨by show _ ≤ 1; omega, by show _ ≤ 200; omega⟩) ?_
  refine lv_if_eq (tgt := 41) hx hb dJ0_init_2_19 (by decide) (fun c_1 => absurd c_1 (by decide)) (fun c_1 => ?_)
  refine lv_aload_n hx hb dJ0_init_2_22 rfl (lv_at hl 2 rfl) ?_
  refine lv_iconst (v := nI 0) hx hb dJ0_init_2_23 (by decide) ?_
  refine w_to (0) nI_0 ?_
  refine va_putF (D := E.1) (cl := vwCl) (ci := 0) (v := .int 0) (ty := .byte) (C := RJ0) (T := TJ0) (N := 4) hx hb hF.2.2.2.2 in_J0 tyJ0 tyJ0_ok nmJ0 hF.2.2.2.1 hE.1 hP hD hS 0 rfl rfl 1 (by decide) (hF.2.2.2.2 _ q271) (fun _ h9 => h9) rfl hnm rfl (by decide +kernel) rfl rfl (Nat.le_of_ble_eq_true rfl) dJ0_init_2_24 (fun H_2 locs_2 hP hD hS => ?_)
  have hP : va_P E.1 vwCl [(o, .inr (0, [.null, .int 0, .int 0, .int 0]))] H_2 := hP
  have hD : va_D (Ad o s.heap.size) [(o, .inr (0, [.null, .int 0, .int 0, .int 0]))] := hD
  refine lv_aload_n hx hb dJ0_init_2_27 rfl (lv_at hl 2 rfl) ?_
  refine lv_aload_n hx hb dJ0_init_2_28 rfl (lv_at hl 1 rfl) ?_
  refine lv_iconst (v := nI 0) hx hb dJ0_init_2_29 (by decide) ?_
  refine lv_iload hx hb dJ0_init_2_30 (lv_at hl 0 rfl) ?_
  refine tQR (uS 3 (rest := [.ref o]) hF hE hS (fun q z => hA q (Nat.le_trans hS.1 z)) (m_cor0 l E H_2.size bv cap n g hn hcap (fun j _ => hfg j)) (lw_S q248 q249 q10 q250) ((q_sb hQ hS h1 h2).sub [1] rfl) hl.1 rfl dJ0_init_2_32 ⟨by show _ ≤ 1; omega, by show _ ≤ 200; omega⟩) hS (fun q z => hA q (Nat.le_trans hS.1 z)) (fun v1 H_3 locs_3 hB hz_3 hk_3 hSn => ?_)
  obtain ⟨g1, hg, hq, hgf⟩ := hB
  obtain ⟨hP, hD⟩ := j_new hP hD hk_3 (fun q z => hA q (Nat.le_trans hS.1 z)) hg (d_one hq)
  have hS := hSn
  have hP : va_P E.1 vwCl [(o, .inr (0, [.null, .int 0, .int 0, .int 0])), (v1, .inl (eB E, n, .inl g1))] H_3 := hP
  have hD : va_D (Ad o s.heap.size) [(o, .inr (0, [.null, .int 0, .int 0, .int 0])), (v1, .inl (eB E, n, .inl g1))] := hD
  refine va_putF (D := E.1) (cl := vwCl) (ci := 0) (v := .ref v1) (ty := (.array .byte)) (C := RJ0) (T := TJ0) (N := 4) hx hb hF.2.2.2.2 in_J0 tyJ0 tyJ0_ok nmJ0 hF.2.2.2.1 hE.1 hP hD hS 0 rfl rfl 0 (by decide) (hF.2.2.2.2 _ q270) (fun _ h9 => h9) rfl hnm rfl (by decide +kernel) rfl rfl (Nat.le_of_ble_eq_true rfl) dJ0_init_2_35 (fun H_4 locs_4 hP hD hS => ?_)
  have hP : va_P E.1 vwCl [(o, .inr (0, [.ref v1, .int 0, .int 0, .int 0])), (v1, .inl (eB E, n, .inl g1))] H_4 := hP
  have hD : va_D (Ad o s.heap.size) [(o, .inr (0, [.ref v1, .int 0, .int 0, .int 0])), (v1, .inl (eB E, n, .inl g1))] := hD
  refine lv_goto (tgt := 97) hx hb dJ0_init_2_38 (by decide) ?_
  exact z_QW hF hr hlk hS ⟨v1, g1, hP, hD, hgf⟩ (by omega) (by omega) dJ0_init_2_97
set_option maxHeartbeats 4000000 in
/-- init -/
theorem m_J0_ini (l : Launch) (E : EvT) (sz : Nat) (o sb bv n cap : Nat) (g : Nat → Int32) (h1 : sb ≠ o) (h2 : bv ≠ o) (hn : n ≤ cap) (hcap : cap ≤ 200) (hfg : sb_Fit g) : Met l yJ0_init (ws_ yJ0_init cJ0_init 2 none) ({ frames := 4, cells := 1, slots := 200, locals := 130 }) (PcE [.ref o, .ref sb] E (Ad o sz) sz (fun H => va_P E.1 vwCl [(o, .inr (0, [.null, .int 0, .int 0, .int 0]))] H ∧ va_P E.1 vwCl (sbW E sb bv n cap g) H)) (QW (fun H1 => ∃ (v1 : Nat) (g1 : Nat → Int32), va_P E.1 vwCl [(o, .inr (0, [.ref v1, .int 0, .int 0, .int 0])), (v1, .inl (eB E, n, .inl g1))] H1 ∧ va_D (Ad o sz) [(o, .inr (0, [.ref v1, .int 0, .int 0, .int 0])), (v1, .inl (eB E, n, .inl g1))] ∧ ∀ j, j < n → g1 j = g j) (Ad o sz)) 1 200 (Ad o sz) := by
  refine ofE RJ0 rfl (by decide) (Nat.le_of_ble_eq_true rfl) ?_
  intro pp ee s mm bw me cd ls hF hr hlk hnm hsz hE hX hl
  subst hsz
  have hx := hF.1
  have hb := hF.2.1
  have hS : va_S (Ad o s.heap.size) s.heap s.heap [] := va_S.rf
  have hl : lv_has ls 2 [(0, .ref o), (1, .ref sb)] := hl
  have hA : ∀ q, s.heap.size ≤ q → (Ad o s.heap.size) q := fun _ h => Or.inr h
  obtain ⟨hP, hQ⟩ := hX
  have hD := d_one (A := Ad o s.heap.size) (a := o) (e := .inr (0, [.null, .int 0, .int 0, .int 0])) (Or.inl rfl)
  have hP : va_P E.1 vwCl [(o, .inr (0, [.null, .int 0, .int 0, .int 0]))] s.heap := hP
  have hD : va_D (Ad o s.heap.size) [(o, .inr (0, [.null, .int 0, .int 0, .int 0]))] := hD
  refine lv_aload_n hx hb dJ0_init_0 rfl (lv_at hl 0 rfl) ?_
  refine lv_aload_n hx hb dJ0_init_1 rfl (lv_at hl 1 rfl) ?_
  refine lv_null hx hb dJ0_init_2 ?_
  refine tQW (uI 2 (rest := []) hF hE hS (adA hD hS hA 0 rfl) (m_J0_in2 l E s.heap.size o sb bv n cap g h1 h2 hn hcap hfg) q4 q230 q231 q232 ⟨hP, hQ⟩ hl.1 rfl dJ0_init_3 ⟨by show _ ≤ 1; omega, by show _ ≤ 200; omega⟩) hS (adA hD hS hA 0 rfl) (fun H_1 locs_1 hB hz_1 hk_1 hSn => ?_)
  have hS := hSn
  exact z_QW hF hr hlk hS hB (by omega) (by omega) dJ0_init_6
set_option maxHeartbeats 4000000 in
/-- toString -/
theorem m_J8_toS (l : Launch) (E : EvT) (sz : Nat) (sb bv cap : Nat) (g : Nat → Int32) (t : List Nat) (hT : Tx t) (hn : t.length ≤ cap) (hcap : cap ≤ 200) (hg : ∀ j, j < t.length → g j = tb t j) (hfg : sb_Fit g) (N : Nat → Prop) (hN : ∀ q, N q → q < sz) : Met l yJ8_toString (ws_ yJ8_toString cJ8_toString 1 (some (.object "java/lang/String"))) ({ frames := 5, cells := 2, slots := 204, locals := 151 }) (PcE [.ref sb] E (Nw sz) sz (fun H => va_P E.1 vwCl (sbW E sb bv t.length cap g) H)) (QR (fun r1 H1 => Str E N H1 r1 t) (Nw sz)) 2 204 (Nw sz) := by
  refine ofE RJ8 rfl (by decide) (Nat.le_of_ble_eq_true rfl) ?_
  intro pp ee s mm bw me cd ls hF hr hlk hnm hsz hE hX hl
  subst hsz
  have hx := hF.1
  have hb := hF.2.1
  have hS : va_S (Nw s.heap.size) s.heap s.heap [] := va_S.rf
  have hl : lv_has ls 1 [(0, .ref sb)] := hl
  have hA : ∀ q, s.heap.size ≤ q → (Nw s.heap.size) q := fun _ h => h
  have hP := p_nil (E := E) (H := s.heap)
  have hD := d_nil (A := Nw s.heap.size)
  have hl1 := p_lt hX 0 rfl
  have hl2 := p_lt hX 1 rfl
  refine va_new (D := E.1) (cl := vwCl) (ci := 0) (fs := [.null, .int 0, .int 0, .int 0]) (C := RJ0) (T := TJ0) (N := 4) hx hb hF.2.2.2.2 in_J0 tyJ0 tyJ0_ok hF.2.2.2.1 (hF.2.2.2.2 _ q225) (hF.2.2.2.2 _ q226) (hF.2.2.2.2 _ q4) hE.1 hP hD hS hA rfl (fun j hj => by rcases (show j = 0 ∨ j = 1 ∨ j = 2 ∨ j = 3 by omega) with rfl | rfl | rfl | rfl <;> rfl) (by show _ ≤ 2; omega) (by show _ ≤ 204; omega) dJ8_toString_0 (fun o H_1 hP hD hS => ?_)
  have hP : va_P E.1 vwCl [(o, .inr (0, [.null, .int 0, .int 0, .int 0]))] H_1 := hP
  have hD : va_D (Nw s.heap.size) [(o, .inr (0, [.null, .int 0, .int 0, .int 0]))] := hD
  refine lv_dup hx hb dJ8_toString_3 rfl ?_
  refine lv_aload_n hx hb dJ8_toString_4 rfl (lv_at hl 0 rfl) ?_
  have ho := d_in hD 0 rfl
  have hQ : va_P E.1 vwCl (sbW E sb bv t.length cap g) H_1 := p_at hX hS (fun k q h z => absurd (hX k q h).lt (Nat.not_lt.mpr z))
  refine tQW (uI 1 (rest := [.ref o]) hF hE hS (adA hD hS hA 0 rfl) (m_J0_ini l E H_1.size o sb bv t.length cap g (fun z => absurd (z ▸ ho) (Nat.not_le.mpr hl1)) (fun z => absurd (z ▸ ho) (Nat.not_le.mpr hl2)) hn hcap hfg) q4 q227 q228 q229 ⟨hP, hQ⟩ hl.1 rfl dJ8_toString_5 ⟨by show _ ≤ 2; omega, by show _ ≤ 204; omega⟩) hS (adA hD hS hA 0 rfl) (fun H_2 locs_2 hB hz_2 hk_2 hSn => ?_)
  obtain ⟨v1, g1, hP1, hD1, hgf⟩ := hB
  obtain ⟨hP, hD⟩ := j_setN hP hD 0 rfl hk_2 (fun q z => hA q (Nat.le_trans hS.1 z)) hP1 hD1
  have hS := hSn
  have hP : va_P E.1 vwCl [(o, .inr (0, [.ref v1, .int 0, .int 0, .int 0])), (v1, .inl (eB E, t.length, .inl g1))] H_2 := hP
  have hD : va_D (Nw s.heap.size) [(o, .inr (0, [.ref v1, .int 0, .int 0, .int 0])), (v1, .inl (eB E, t.length, .inl g1))] := hD
  exact z_QR hF hr hlk (Or.inl ⟨_, rfl⟩) hS ⟨hT, v1, SO.of hP 0 rfl (fun z => absurd (hN _ z) (Nat.not_lt.mpr (d_in hD 0 rfl))), (RA.of hP 1 rfl (fun z => absurd (hN _ z) (Nat.not_lt.mpr (d_in hD 1 rfl)))).congr (fun j hj => (hgf j hj).trans (hg j hj))⟩ (by omega) (by omega) dJ8_toString_8
end
section
/-! plain laws of texts: letters, common prefix and suffix, padding -/
set_option maxRecDepth 100000
theorem isUp_le (c : Nat) : isUp c ≤ 1 := by unfold isUp; split <;> omega
theorem isLo_le (c : Nat) : isLo c ≤ 1 := by unfold isLo; split <;> omega
theorem isUp_0 {c : Nat} (h : isUp c = 0) : lo c = c := by
  unfold isUp at h
  unfold lo
  split at h
  · omega
  · rename_i g; exact if_neg g
theorem isLo_0 {c : Nat} (h : isLo c = 0) : hi c = c := by
  unfold isLo at h
  unfold hi
  split at h
  · omega
  · rename_i g; exact if_neg g
theorem lo_x : ∀ c, c < 128 → ¬ isUp c = 0 → ((nI c ^^^ nI 32).toUInt32 % 65536).toInt32 = nI (lo c) := by decide +kernel
theorem hi_x : ∀ c, c < 128 → ¬ isLo c = 0 → ((nI c ^^^ nI 32).toUInt32 % 65536).toInt32 = nI (hi c) := by decide +kernel
theorem lo_lt (c : Nat) (h : c < 128) : lo c < 128 := by unfold lo; split <;> omega
theorem hi_lt (c : Nat) (h : c < 128) : hi c < 128 := by unfold hi; split <;> omega
theorem Tx.map {t : List Nat} (h : Tx t) (f : Nat → Nat) (hf : ∀ c, c < 128 → f c < 128) : Tx (t.map f) :=
  ⟨by rw [List.length_map]; exact h.1, fun c hc => by obtain ⟨d, hd, rfl⟩ := List.mem_map.mp hc; exact hf d (h.2 d hd)⟩
theorem map_getD (t : List Nat) (f : Nat → Nat) (h0 : f 0 = 0) (j : Nat) : (t.map f).getD j 0 = f (t.getD j 0) := by
  rw [List.getD_eq_getElem?_getD, List.getD_eq_getElem?_getD, List.getElem?_map]
  cases t[j]? with
  | none => exact h0.symm
  | some c => rfl
theorem lo_00 : lo 0 = 0 := by decide
theorem hi_00 : hi 0 = 0 := by decide
theorem getD_ext {a b : List Nat} (hl : a.length = b.length) (h : ∀ j, j < a.length → a.getD j 0 = b.getD j 0) : a = b := by
  refine List.ext_getElem hl (fun i h1 h2 => ?_)
  have := h i h1
  rw [List.getD_eq_getElem?_getD, List.getD_eq_getElem?_getD, List.getElem?_eq_getElem h1, List.getElem?_eq_getElem h2] at this
  exact this
theorem map_id_of {t : List Nat} {f : Nat → Nat} (h0 : f 0 = 0) (h : ∀ j, j < t.length → f (t.getD j 0) = t.getD j 0) : t.map f = t :=
  getD_ext (List.length_map _) (fun j hj => by rw [map_getD t f h0]; exact h j (by rw [List.length_map] at hj; exact hj))
/-- alike but for the case of letters -/
def alk (a b : List Nat) : Nat := if a.map lo = b.map lo then 1 else 0
theorem ai_lo : ∀ c, c < 128 → (ai c < 26 ∧ lo c = ai c + 97) ∨ (26 ≤ ai c ∧ lo c = c ∧ (c < 97 ∨ 122 < c)) := by decide +kernel
theorem ai_lt (c : Nat) : ai c < 65536 := Nat.mod_lt _ (by decide)
theorem alk_1 {a b : List Nat} (hl : a.length = b.length) (h : ∀ j, j < a.length → lo (a.getD j 0) = lo (b.getD j 0)) : alk a b = 1 := by
  refine if_pos (getD_ext (by rw [List.length_map, List.length_map]; exact hl) (fun j hj => ?_))
  rw [map_getD a lo lo_00, map_getD b lo lo_00]
  exact h j (by rw [List.length_map] at hj; exact hj)
theorem alk_0 {a b : List Nat} (j : Nat) (h : lo (a.getD j 0) ≠ lo (b.getD j 0)) : alk a b = 0 := by
  refine if_neg (fun z => h ?_)
  rw [← map_getD a lo lo_00, ← map_getD b lo lo_00, z]
theorem alk_len {a b : List Nat} (h : a.length ≠ b.length) : alk a b = 0 := by
  refine if_neg (fun z => h ?_)
  have := congrArg List.length z
  rw [List.length_map, List.length_map] at this
  exact this
/-- how far f and g agree, at most m -/
def cp (f g : Nat → Nat) : Nat → Nat
  | 0 => 0
  | m + 1 => if cp f g m < m then cp f g m else if f m = g m then m + 1 else m
theorem cp_ok (f g : Nat → Nat) (m : Nat) : cp f g m ≤ m ∧ (∀ j, j < cp f g m → f j = g j) ∧ (cp f g m < m → f (cp f g m) ≠ g (cp f g m)) := by
  induction m with
  | zero => exact ⟨Nat.le_refl _, fun j h => absurd h (Nat.not_lt_zero j), fun h => absurd h (Nat.lt_irrefl 0)⟩
  | succ m ih =>
    obtain ⟨h1, h2, h3⟩ := ih
    unfold cp
    by_cases hc : cp f g m < m
    · rw [if_pos hc]
      exact ⟨by omega, h2, fun _ => h3 hc⟩
    · rw [if_neg hc]
      have he : cp f g m = m := by omega
      by_cases hf : f m = g m
      · rw [if_pos hf]
        refine ⟨Nat.le_refl _, fun j hj => ?_, fun h => absurd h (Nat.lt_irrefl _)⟩
        by_cases hjm : j = m
        · rw [hjm]; exact hf
        · exact h2 j (by omega)
      · rw [if_neg hf]
        exact ⟨Nat.le_succ m, fun j hj => h2 j (by omega), fun _ => hf⟩
theorem cp_eq {f g : Nat → Nat} {m k : Nat} (h1 : k ≤ m) (h2 : ∀ j, j < k → f j = g j) (h3 : k < m → f k ≠ g k) : k = cp f g m := by
  obtain ⟨g1, g2, g3⟩ := cp_ok f g m
  rcases Nat.lt_trichotomy k (cp f g m) with h | h | h
  · exact absurd (g2 k h) (h3 (by omega))
  · exact h
  · exact absurd (h2 _ h) (g3 (by omega))
def pfx (a b : List Nat) : Nat := cp (fun j => a.getD j 0) (fun j => b.getD j 0) (min a.length b.length)
def sfx (a b : List Nat) : Nat := cp (fun j => a.getD (a.length - j - 1) 0) (fun j => b.getD (b.length - j - 1) 0) (min a.length b.length)
theorem pfx_le (a b : List Nat) : pfx a b ≤ a.length ∧ pfx a b ≤ b.length := by
  have := (cp_ok (fun j => a.getD j 0) (fun j => b.getD j 0) (min a.length b.length)).1
  unfold pfx
  omega
theorem sfx_le (a b : List Nat) : sfx a b ≤ a.length ∧ sfx a b ≤ b.length := by
  have := (cp_ok (fun j => a.getD (a.length - j - 1) 0) (fun j => b.getD (b.length - j - 1) 0) (min a.length b.length)).1
  unfold sfx
  omega
theorem min_nI2 {a b : Nat} (ha : a < 2 ^ 31) (hb : b < 2 ^ 31) : (if nI b < nI a then nI b else nI a) = nI (min a b) := by
  by_cases h : b < a
  · rw [if_pos (nI_lt h ha), Nat.min_eq_right (by omega)]
  · rw [if_neg (nI_nlt (by omega) hb), Nat.min_eq_left (by omega)]
/-- padding -/
def padS (t : List Nat) (w c : Nat) : List Nat := List.replicate (w - t.length) c ++ t
def padE (t : List Nat) (w c : Nat) : List Nat := t ++ List.replicate (w - t.length) c
theorem padS_len {t : List Nat} {w c : Nat} : (padS t w c).length = w - t.length + t.length := by unfold padS; rw [List.length_append, List.length_replicate]
theorem padE_len {t : List Nat} {w c : Nat} : (padE t w c).length = t.length + (w - t.length) := by unfold padE; rw [List.length_append, List.length_replicate]
theorem padS_tx {t : List Nat} {w c : Nat} (h : Tx t) (hw : w ≤ 64) (hc : c < 128) : Tx (padS t w c) :=
  ⟨by have := h.1; rw [padS_len]; omega, fun d hd => by
    rcases List.mem_append.mp hd with z | z
    · rw [List.eq_of_mem_replicate z]; exact hc
    · exact h.2 d z⟩
theorem padE_tx {t : List Nat} {w c : Nat} (h : Tx t) (hw : w ≤ 64) (hc : c < 128) : Tx (padE t w c) :=
  ⟨by have := h.1; rw [padE_len]; omega, fun d hd => by
    rcases List.mem_append.mp hd with z | z
    · exact h.2 d z
    · rw [List.eq_of_mem_replicate z]; exact hc⟩
theorem getD_app_lo {a b : List Nat} {j : Nat} (h : j < a.length) : (a ++ b).getD j 0 = a.getD j 0 := by
  rw [List.getD_eq_getElem?_getD, List.getD_eq_getElem?_getD, List.getElem?_append_left h]
theorem getD_app_hi {a b : List Nat} {j : Nat} : (a ++ b).getD (a.length + j) 0 = b.getD j 0 := by
  rw [List.getD_eq_getElem?_getD, List.getD_eq_getElem?_getD, List.getElem?_append_right (Nat.le_add_right _ _), Nat.add_sub_cancel_left]
theorem getD_rep {n c j : Nat} (h : j < n) : (List.replicate n c).getD j 0 = c := by
  rw [List.getD_eq_getElem?_getD, List.getElem?_replicate, if_pos h]
  rfl
theorem padS_lo {t : List Nat} {w c j : Nat} (h : j < w - t.length) : (padS t w c).getD j 0 = c := by
  unfold padS
  rw [getD_app_lo (by rw [List.length_replicate]; exact h), getD_rep h]
theorem padS_hi {t : List Nat} {w c j : Nat} : (padS t w c).getD (w - t.length + j) 0 = t.getD j 0 := by
  unfold padS
  have := getD_app_hi (a := List.replicate (w - t.length) c) (b := t) (j := j)
  rw [List.length_replicate] at this
  exact this
theorem padE_lo {t : List Nat} {w c j : Nat} (h : j < t.length) : (padE t w c).getD j 0 = t.getD j 0 := getD_app_lo h
theorem padE_hi {t : List Nat} {w c j : Nat} (h : j < w - t.length) : (padE t w c).getD (t.length + j) 0 = c := by
  unfold padE
  rw [getD_app_hi, getD_rep h]
theorem padS_0 {t : List Nat} {w c : Nat} (h : w ≤ t.length) : padS t w c = t := by
  unfold padS
  rw [Nat.sub_eq_zero_of_le h]
  rfl
theorem padE_0 {t : List Nat} {w c : Nat} (h : w ≤ t.length) : padE t w c = t := by
  unfold padE
  rw [Nat.sub_eq_zero_of_le h, List.replicate_zero, List.append_nil]
/-- one place holds one text -/
theorem Str.inj {E : EvT} {N N' : Nat → Prop} {H : Heap} {a : Nat} {t u : List Nat} (h : Str E N H a t) (h' : Str E N' H a u) : t = u := by
  obtain ⟨hT, v, ⟨cell, h1, -, -, -, h2, -⟩, cv, g1, -, -, -, g2, g3, g4, -⟩ := h
  obtain ⟨hT', v', ⟨cell', h1', -, -, -, h2', -⟩, cv', g1', -, -, -, g2', g3', g4', -⟩ := h'
  cases h1.symm.trans h1'
  cases h2.symm.trans h2'
  cases g1.symm.trans g1'
  have hl : t.length = u.length := (nI_eq (Nat.lt_of_le_of_lt hT.1 (by decide)) (Nat.lt_of_le_of_lt hT'.1 (by decide))).mp (g3.symm.trans g3')
  refine getD_ext hl (fun j hj => ?_)
  have e := (g4 j hj).symm.trans (g4' j (by rw [← hl]; exact hj))
  have e2 : tb t j = tb u j := Value.int.inj (Option.some.inj e)
  have b1 := hT.at j
  have b2 := hT'.at j
  exact (nI_eq (by omega) (by omega)).mp e2
end
section
/-! Guava's Ascii -/
set_option maxRecDepth 100000
theorem if_st {α : Type} {j k : Nat} (x y : α) (h : ¬ j = k) : (if j < k then x else y) = (if j < k + 1 then x else y) := by
  by_cases z : j < k
  · rw [if_pos z, if_pos (by omega)]
  · rw [if_neg z, if_neg (by omega)]

set_option maxHeartbeats 4000000 in
/-- toLowerCase -/
theorem m_X4_lo (l : Launch) (E : EvT) (sz : Nat) (a : Nat) (t : List Nat) (N : Nat → Prop) (hN : ∀ q, N q → q < sz) : Met l yX4_toLowerCase (ws_ yX4_toLowerCase cX4_toLowerCase 5 (some (.object "java/lang/String"))) ({ frames := 5, cells := 3, slots := 204, locals := 117 }) (PcE [.ref a] E (Nw sz) sz (fun H => Str E N H a t)) (QR (fun r1 H1 => Str E N H1 r1 (t.map lo)) (Nw sz)) 3 204 (Nw sz) := by
  refine ofE RX4 rfl (by decide) (Nat.le_of_ble_eq_true rfl) ?_
  intro pp ee s mm bw me cd ls hF hr hlk hnm hsz hE hX hl
  subst hsz
  have hx := hF.1
  have hb := hF.2.1
  have hS : va_S (Nw s.heap.size) s.heap s.heap [] := va_S.rf
  have hl : lv_has ls 5 [(0, .ref a)] := hl
  have hA : ∀ q, s.heap.size ≤ q → (Nw s.heap.size) q := fun _ h => h
  have hT := hX.1
  have h64 := hT.len
  have hT2 : Tx (t.map lo) := hT.map lo lo_lt
  refine lv_aload_n hx hb dX4_toLowerCase_0 rfl (lv_at hl 0 rfl) ?_
  refine tI (v := nI t.length) (uV 0 (rest := []) hF hE hS (fun _ z => absurd z id) (m_len l E s.heap.size a t) (lw_V q320 q38 q39 q4 q40) (hX.recv hE) hX.no hl.1 rfl dX4_toLowerCase_1 ⟨by show _ ≤ 3; omega, by show _ ≤ 204; omega⟩) ?_
  refine lv_istore_n (lv' := [(1, .int (nI t.length)), (0, .ref a)]) hx hb dX4_toLowerCase_4 rfl hl (by decide) rfl (fun ls hl => ?_)
  refine lv_iconst (v := nI 0) hx hb dX4_toLowerCase_5 (by decide) ?_
  refine lv_istore_n (lv' := [(2, .int (nI 0)), (1, .int (nI t.length)), (0, .ref a)]) hx hb dX4_toLowerCase_6 rfl hl (by decide) rfl (fun ls hl => ?_)
  have inner : ∀ (n k : Nat) (q : Nat) (g : Nat → Int32) (H : Heap) (locs : List Loc) (ls : Array Slot), (k + n = t.length) → (t.length ≠ 0) → (va_P E.1 vwCl [(q, .inl (eC E, t.length, .inl g))] H) → (va_D (Nw s.heap.size) [(q, .inl (eC E, t.length, .inl g))]) → (va_S (Nw s.heap.size) s.heap H locs) → (∀ j, j < t.length → g j = nI (if j < k then lo (t.getD j 0) else t.getD j 0)) → lv_has ls 5 [(2, .int (nI k)), (0, .ref a), (1, .int (nI t.length)), (3, .ref q)] → W pp l ee ({ frames := 5, cells := 3, slots := 204, locals := 117 } : Room) s mm ([.ref a] : List Value).toArray bw me cd H locs (0 + 1) (0 + 100) (MQ bw (QR (fun r1 H1 => Str E N H1 r1 (t.map lo)) (Nw s.heap.size)) ([.ref a] : List Value).toArray s 3 204 (Nw s.heap.size)) (F0 mm 28 ls []) := by
    intro n
    induction n with
    | zero =>
      intro k q g H locs ls hk h0 hP hD hS hg hl
      refine lv_iload_n hx hb dX4_toLowerCase_28 rfl (lv_at hl 0 rfl) ?_
      refine lv_iload_n hx hb dX4_toLowerCase_29 rfl (lv_at hl 2 rfl) ?_
      refine lv_icmp_ge (tgt := 61) hx hb dX4_toLowerCase_30 (by decide) (fun c_1 => ?_) (fun c_1 => absurd ((nI_leI (by omega) (by omega)).mpr (by omega)) c_1)
      refine lv_aload_n hx hb dX4_toLowerCase_61 rfl (lv_at hl 3 rfl) ?_
      have hQ : RA (eC E) No H q (t.map lo).length (tb (t.map lo)) := by
        rw [List.length_map]
        refine (RA.of hP 0 rfl id).congr (fun j hj => (hg j hj).trans ?_)
        rw [if_pos (by omega)]
        unfold tb
        rw [map_getD t lo lo_00]
      refine tQR (uS 1 (rest := []) hF hE hS (fun q z => hA q (Nat.le_trans hS.1 z)) (m_vOf l E H.size q (t.map lo) hT2 (by rw [List.length_map]; exact h0) N (fun q z => Nat.lt_of_lt_of_le (hN q z) hS.1)) (lw_S q355 q356 q4 q357) hQ hl.1 rfl dX4_toLowerCase_62 ⟨by show _ ≤ 3; omega, by show _ ≤ 204; omega⟩) hS (fun q z => hA q (Nat.le_trans hS.1 z)) (fun r1 H_2 locs_2 hB hz_2 hk_2 hSn => ?_)
      have hS := hSn
      exact z_QR hF hr hlk (Or.inl ⟨_, rfl⟩) hS hB (by omega) (by omega) dX4_toLowerCase_65
    | succ n ih =>
      intro k q g H locs ls hk h0 hP hD hS hg hl
      refine lv_iload_n hx hb dX4_toLowerCase_28 rfl (lv_at hl 0 rfl) ?_
      refine lv_iload_n hx hb dX4_toLowerCase_29 rfl (lv_at hl 2 rfl) ?_
      refine lv_icmp_ge (tgt := 61) hx hb dX4_toLowerCase_30 (by decide) (fun c_3 => absurd c_3 (fun z => absurd ((nI_leI (by omega) (by omega)).mp z) (by omega))) (fun c_3 => ?_)
      have hc := hT.at k
      have hgk : g k = nI (t.getD k 0) := (hg k (by omega)).trans (by rw [if_neg (Nat.lt_irrefl k)])
      refine lv_aload_n hx hb dX4_toLowerCase_33 rfl (lv_at hl 3 rfl) ?_
      refine lv_iload_n hx hb dX4_toLowerCase_34 rfl (lv_at hl 0 rfl) ?_
      refine r_cld hF hE (RA.of (N := No) hP 0 rfl id) (by omega) (by omega) dX4_toLowerCase_35 ?_
      refine w_to (nI (t.getD k 0)) hgk ?_
      refine lv_istore (lv' := [(4, .int (nI (t.getD k 0))), (2, .int (nI k)), (0, .ref a), (1, .int (nI t.length)), (3, .ref q)]) hx hb dX4_toLowerCase_36 hl (by decide) rfl (fun ls hl => ?_)
      refine lv_iload hx hb dX4_toLowerCase_38 (lv_at hl 0 rfl) ?_
      refine tI (v := nI (isUp (t.getD k 0))) (uS 1 (rest := []) hF hE hS (fun _ z => absurd z id) (m_isUp l E H.size (t.getD k 0) hc) (lw_S q336 q337 q12 q338) trivial hl.1 rfl dX4_toLowerCase_40 ⟨by show _ ≤ 3; omega, by show _ ≤ 204; omega⟩) ?_
      have hle := isUp_le (t.getD k 0)
      refine lv_if_eq (tgt := 55) hx hb dX4_toLowerCase_43 (by decide) (fun c_4 => ?_) (fun c_4 => ?_)
      · skip
        have hz := (nI_z (by omega)).mp c_4
        refine lv_iinc (v := nI (k + 1)) (lv' := [(2, .int (nI (k + 1))), (4, .int (nI (t.getD k 0))), (0, .ref a), (1, .int (nI t.length)), (3, .ref q)]) hx hb dX4_toLowerCase_55 hl (k := 1) rfl (nI_add k 1) (by decide) rfl (fun ls hl => ?_)
        refine lv_goto (tgt := 28) hx hb dX4_toLowerCase_58 (by decide) ?_
        exact ih (k + 1) q _ _ _ ls (by omega) h0 hP hD hS (fun j hj => by
            skip
            by_cases hjk : j = k
            · subst hjk; rw [if_pos (by omega), isUp_0 hz]; exact hgk
            · skip; exact (hg j hj).trans (by rw [if_st _ _ hjk])) (lv_sub hl [0, 2, 3, 4] rfl)
      · skip
        have hz : ¬ isUp (t.getD k 0) = 0 := fun z => c_4 ((nI_z (by omega)).mpr z)
        refine lv_aload_n hx hb dX4_toLowerCase_46 rfl (lv_at hl 4 rfl) ?_
        refine lv_iload_n hx hb dX4_toLowerCase_47 rfl (lv_at hl 1 rfl) ?_
        refine lv_iload hx hb dX4_toLowerCase_48 (lv_at hl 0 rfl) ?_
        refine lv_bipush (v := nI 32) hx hb dX4_toLowerCase_50 (by decide) ?_
        refine lv_ixor hx hb dX4_toLowerCase_52 ?_
        refine lv_i2c (v := nI (lo (t.getD k 0))) hx hb dX4_toLowerCase_53 (lo_x _ hc hz) ?_
        refine r_cst hF hE hP hD hS 0 rfl (j := k) (by omega) (by omega) (c_vc _ (lo_lt _ hc)) dX4_toLowerCase_54 (fun H_5 locs_5 hP hD hS => ?_)
        have hP : va_P E.1 vwCl [(q, .inl (eC E, t.length, .inl (upd g k (nI (lo (t.getD k 0))))))] H_5 := hP
        have hD : va_D (Nw s.heap.size) [(q, .inl (eC E, t.length, .inl (upd g k (nI (lo (t.getD k 0))))))] := hD
        refine lv_iinc (v := nI (k + 1)) (lv' := [(2, .int (nI (k + 1))), (4, .int (nI (t.getD k 0))), (0, .ref a), (1, .int (nI t.length)), (3, .ref q)]) hx hb dX4_toLowerCase_55 hl (k := 1) rfl (nI_add k 1) (by decide) rfl (fun ls hl => ?_)
        refine lv_goto (tgt := 28) hx hb dX4_toLowerCase_58 (by decide) ?_
        exact ih (k + 1) q _ _ _ ls (by omega) h0 hP hD hS (fun j hj => by
            skip
            by_cases hjk : j = k
            · subst hjk; rw [if_pos (by omega)]; exact pk_us
            · rw [pk_un hjk]; exact (hg j hj).trans (by rw [if_st _ _ hjk])) (lv_sub hl [0, 2, 3, 4] rfl)
  have loop : ∀ (n k : Nat) (ls : Array Slot), (k + n = t.length) → (∀ j, j < k → lo (t.getD j 0) = t.getD j 0) → lv_has ls 5 [(2, .int (nI k)), (0, .ref a), (1, .int (nI t.length))] → W pp l ee ({ frames := 5, cells := 3, slots := 204, locals := 117 } : Room) s mm ([.ref a] : List Value).toArray bw me cd s.heap [] 0 0 (MQ bw (QR (fun r1 H1 => Str E N H1 r1 (t.map lo)) (Nw s.heap.size)) ([.ref a] : List Value).toArray s 3 204 (Nw s.heap.size)) (F0 mm 7 ls []) := by
    intro n
    induction n with
    | zero =>
      intro k ls hk hz hl
      refine lv_iload_n hx hb dX4_toLowerCase_7 rfl (lv_at hl 0 rfl) ?_
      refine lv_iload_n hx hb dX4_toLowerCase_8 rfl (lv_at hl 2 rfl) ?_
      refine lv_icmp_ge (tgt := 72) hx hb dX4_toLowerCase_9 (by decide) (fun c_6 => ?_) (fun c_6 => absurd ((nI_leI (by omega) (by omega)).mpr (by omega)) c_6)
      refine lv_aload_n hx hb dX4_toLowerCase_72 rfl (lv_at hl 1 rfl) ?_
      exact z_QR hF hr hlk (Or.inl ⟨_, rfl⟩) hS (by rw [map_id_of lo_00 (fun j hj => hz j (by omega))]; exact hX) (by omega) (by omega) dX4_toLowerCase_73
    | succ n ih =>
      intro k ls hk hz hl
      refine lv_iload_n hx hb dX4_toLowerCase_7 rfl (lv_at hl 0 rfl) ?_
      refine lv_iload_n hx hb dX4_toLowerCase_8 rfl (lv_at hl 2 rfl) ?_
      refine lv_icmp_ge (tgt := 72) hx hb dX4_toLowerCase_9 (by decide) (fun c_7 => absurd c_7 (fun z => absurd ((nI_leI (by omega) (by omega)).mp z) (by omega))) (fun c_7 => ?_)
      have hc := hT.at k
      refine lv_aload_n hx hb dX4_toLowerCase_12 rfl (lv_at hl 1 rfl) ?_
      refine lv_iload_n hx hb dX4_toLowerCase_13 rfl (lv_at hl 0 rfl) ?_
      refine tI (v := nI (t.getD k 0)) (uV 1 (rest := []) hF hE hS (fun _ z => absurd z id) (m_charAt l E s.heap.size a t k (by omega)) (lw_V q321 q322 q323 q4 q324) (hX.recv hE) hX.no hl.1 rfl dX4_toLowerCase_14 ⟨by show _ ≤ 3; omega, by show _ ≤ 204; omega⟩) ?_
      refine tI (v := nI (isUp (t.getD k 0))) (uS 1 (rest := []) hF hE hS (fun _ z => absurd z id) (m_isUp l E s.heap.size (t.getD k 0) hc) (lw_S q336 q337 q12 q338) trivial hl.1 rfl dX4_toLowerCase_17 ⟨by show _ ≤ 3; omega, by show _ ≤ 204; omega⟩) ?_
      have hle := isUp_le (t.getD k 0)
      refine lv_if_eq (tgt := 66) hx hb dX4_toLowerCase_20 (by decide) (fun c_8 => ?_) (fun c_8 => ?_)
      · skip
        have hzk := (nI_z (by omega)).mp c_8
        refine lv_iinc (v := nI (k + 1)) (lv' := [(2, .int (nI (k + 1))), (0, .ref a), (1, .int (nI t.length))]) hx hb dX4_toLowerCase_66 hl (k := 0) rfl (nI_add k 1) (by decide) rfl (fun ls hl => ?_)
        refine lv_goto (tgt := 7) hx hb dX4_toLowerCase_69 (by decide) ?_
        exact ih (k + 1) ls (by omega) (fun j hj => by
            by_cases hjk : j = k
            · subst hjk; exact isUp_0 hzk
            · exact hz j (by omega)) (lv_sub hl [0, 1, 2] rfl)
      · skip
        refine lv_aload_n hx hb dX4_toLowerCase_23 rfl (lv_at hl 1 rfl) ?_
        refine tQR (uV 0 (rest := []) hF hE hS (fun q z => hA q (Nat.le_trans hS.1 z)) (m_toCA l E s.heap.size a t) (lw_V q339 q340 q341 q4 q342) (hX.recv hE) hX.no hl.1 rfl dX4_toLowerCase_24 ⟨by show _ ≤ 3; omega, by show _ ≤ 204; omega⟩) hS (fun q z => hA q (Nat.le_trans hS.1 z)) (fun q H_9 locs_9 hB hz_9 hk_9 hSn => ?_)
        obtain ⟨g, hP, hq, hgf⟩ := hB
        have hS := hSn
        refine lv_astore_n (lv' := [(3, .ref q), (2, .int (nI k)), (0, .ref a), (1, .int (nI t.length))]) hx hb dX4_toLowerCase_27 rfl hl (by decide) rfl (fun ls hl => ?_)
        exact inner (n + 1) k q g _ _ ls (by omega) (by omega) hP (d_one hq) hS (fun j hj => (hgf j hj).trans (by
            by_cases z : j < k
            · rw [if_pos z, hz j z]; rfl
            · rw [if_neg z]; rfl)) (lv_sub hl [1, 2, 3, 0] rfl)
  exact loop t.length 0 ls (by omega) (fun j hj => absurd hj (Nat.not_lt_zero j)) (lv_sub hl [0, 2, 1] rfl)
set_option maxHeartbeats 4000000 in
/-- toUpperCase -/
theorem m_X4_hi (l : Launch) (E : EvT) (sz : Nat) (a : Nat) (t : List Nat) (N : Nat → Prop) (hN : ∀ q, N q → q < sz) : Met l yX4_toUpperCase (ws_ yX4_toUpperCase cX4_toUpperCase 5 (some (.object "java/lang/String"))) ({ frames := 5, cells := 3, slots := 204, locals := 117 }) (PcE [.ref a] E (Nw sz) sz (fun H => Str E N H a t)) (QR (fun r1 H1 => Str E N H1 r1 (t.map hi)) (Nw sz)) 3 204 (Nw sz) := by
  refine ofE RX4 rfl (by decide) (Nat.le_of_ble_eq_true rfl) ?_
  intro pp ee s mm bw me cd ls hF hr hlk hnm hsz hE hX hl
  subst hsz
  have hx := hF.1
  have hb := hF.2.1
  have hS : va_S (Nw s.heap.size) s.heap s.heap [] := va_S.rf
  have hl : lv_has ls 5 [(0, .ref a)] := hl
  have hA : ∀ q, s.heap.size ≤ q → (Nw s.heap.size) q := fun _ h => h
  have hT := hX.1
  have h64 := hT.len
  have hT2 : Tx (t.map hi) := hT.map hi hi_lt
  refine lv_aload_n hx hb dX4_toUpperCase_0 rfl (lv_at hl 0 rfl) ?_
  refine tI (v := nI t.length) (uV 0 (rest := []) hF hE hS (fun _ z => absurd z id) (m_len l E s.heap.size a t) (lw_V q320 q38 q39 q4 q40) (hX.recv hE) hX.no hl.1 rfl dX4_toUpperCase_1 ⟨by show _ ≤ 3; omega, by show _ ≤ 204; omega⟩) ?_
  refine lv_istore_n (lv' := [(1, .int (nI t.length)), (0, .ref a)]) hx hb dX4_toUpperCase_4 rfl hl (by decide) rfl (fun ls hl => ?_)
  refine lv_iconst (v := nI 0) hx hb dX4_toUpperCase_5 (by decide) ?_
  refine lv_istore_n (lv' := [(2, .int (nI 0)), (1, .int (nI t.length)), (0, .ref a)]) hx hb dX4_toUpperCase_6 rfl hl (by decide) rfl (fun ls hl => ?_)
  have inner : ∀ (n k : Nat) (q : Nat) (g : Nat → Int32) (H : Heap) (locs : List Loc) (ls : Array Slot), (k + n = t.length) → (t.length ≠ 0) → (va_P E.1 vwCl [(q, .inl (eC E, t.length, .inl g))] H) → (va_D (Nw s.heap.size) [(q, .inl (eC E, t.length, .inl g))]) → (va_S (Nw s.heap.size) s.heap H locs) → (∀ j, j < t.length → g j = nI (if j < k then hi (t.getD j 0) else t.getD j 0)) → lv_has ls 5 [(2, .int (nI k)), (0, .ref a), (1, .int (nI t.length)), (3, .ref q)] → W pp l ee ({ frames := 5, cells := 3, slots := 204, locals := 117 } : Room) s mm ([.ref a] : List Value).toArray bw me cd H locs (0 + 1) (0 + 100) (MQ bw (QR (fun r1 H1 => Str E N H1 r1 (t.map hi)) (Nw s.heap.size)) ([.ref a] : List Value).toArray s 3 204 (Nw s.heap.size)) (F0 mm 28 ls []) := by
    intro n
    induction n with
    | zero =>
      intro k q g H locs ls hk h0 hP hD hS hg hl
      refine lv_iload_n hx hb dX4_toUpperCase_28 rfl (lv_at hl 0 rfl) ?_
      refine lv_iload_n hx hb dX4_toUpperCase_29 rfl (lv_at hl 2 rfl) ?_
      refine lv_icmp_ge (tgt := 61) hx hb dX4_toUpperCase_30 (by decide) (fun c_1 => ?_) (fun c_1 => absurd ((nI_leI (by omega) (by omega)).mpr (by omega)) c_1)
      refine lv_aload_n hx hb dX4_toUpperCase_61 rfl (lv_at hl 3 rfl) ?_
      have hQ : RA (eC E) No H q (t.map hi).length (tb (t.map hi)) := by
        rw [List.length_map]
        refine (RA.of hP 0 rfl id).congr (fun j hj => (hg j hj).trans ?_)
        rw [if_pos (by omega)]
        unfold tb
        rw [map_getD t hi hi_00]
      refine tQR (uS 1 (rest := []) hF hE hS (fun q z => hA q (Nat.le_trans hS.1 z)) (m_vOf l E H.size q (t.map hi) hT2 (by rw [List.length_map]; exact h0) N (fun q z => Nat.lt_of_lt_of_le (hN q z) hS.1)) (lw_S q355 q356 q4 q357) hQ hl.1 rfl dX4_toUpperCase_62 ⟨by show _ ≤ 3; omega, by show _ ≤ 204; omega⟩) hS (fun q z => hA q (Nat.le_trans hS.1 z)) (fun r1 H_2 locs_2 hB hz_2 hk_2 hSn => ?_)
      have hS := hSn
      exact z_QR hF hr hlk (Or.inl ⟨_, rfl⟩) hS hB (by omega) (by omega) dX4_toUpperCase_65
    | succ n ih =>
      intro k q g H locs ls hk h0 hP hD hS hg hl
      refine lv_iload_n hx hb dX4_toUpperCase_28 rfl (lv_at hl 0 rfl) ?_
      refine lv_iload_n hx hb dX4_toUpperCase_29 rfl (lv_at hl 2 rfl) ?_
      refine lv_icmp_ge (tgt := 61) hx hb dX4_toUpperCase_30 (by decide) (fun c_3 => absurd c_3 (fun z => absurd ((nI_leI (by omega) (by omega)).mp z) (by omega))) (fun c_3 => ?_)
      have hc := hT.at k
      have hgk : g k = nI (t.getD k 0) := (hg k (by omega)).trans (by rw [if_neg (Nat.lt_irrefl k)])
      refine lv_aload_n hx hb dX4_toUpperCase_33 rfl (lv_at hl 3 rfl) ?_
      refine lv_iload_n hx hb dX4_toUpperCase_34 rfl (lv_at hl 0 rfl) ?_
      refine r_cld hF hE (RA.of (N := No) hP 0 rfl id) (by omega) (by omega) dX4_toUpperCase_35 ?_
      refine w_to (nI (t.getD k 0)) hgk ?_
      refine lv_istore (lv' := [(4, .int (nI (t.getD k 0))), (2, .int (nI k)), (0, .ref a), (1, .int (nI t.length)), (3, .ref q)]) hx hb dX4_toUpperCase_36 hl (by decide) rfl (fun ls hl => ?_)
      refine lv_iload hx hb dX4_toUpperCase_38 (lv_at hl 0 rfl) ?_
      refine tI (v := nI (isLo (t.getD k 0))) (uS 1 (rest := []) hF hE hS (fun _ z => absurd z id) (m_isLo l E H.size (t.getD k 0) hc) (lw_S q385 q386 q12 q387) trivial hl.1 rfl dX4_toUpperCase_40 ⟨by show _ ≤ 3; omega, by show _ ≤ 204; omega⟩) ?_
      have hle := isLo_le (t.getD k 0)
      refine lv_if_eq (tgt := 55) hx hb dX4_toUpperCase_43 (by decide) (fun c_4 => ?_) (fun c_4 => ?_)
      · skip
        have hz := (nI_z (by omega)).mp c_4
        refine lv_iinc (v := nI (k + 1)) (lv' := [(2, .int (nI (k + 1))), (4, .int (nI (t.getD k 0))), (0, .ref a), (1, .int (nI t.length)), (3, .ref q)]) hx hb dX4_toUpperCase_55 hl (k := 1) rfl (nI_add k 1) (by decide) rfl (fun ls hl => ?_)
        refine lv_goto (tgt := 28) hx hb dX4_toUpperCase_58 (by decide) ?_
        exact ih (k + 1) q _ _ _ ls (by omega) h0 hP hD hS (fun j hj => by
            skip
            by_cases hjk : j = k
            · subst hjk; rw [if_pos (by omega), isLo_0 hz]; exact hgk
            · skip; exact (hg j hj).trans (by rw [if_st _ _ hjk])) (lv_sub hl [0, 2, 3, 4] rfl)
      · skip
        have hz : ¬ isLo (t.getD k 0) = 0 := fun z => c_4 ((nI_z (by omega)).mpr z)
        refine lv_aload_n hx hb dX4_toUpperCase_46 rfl (lv_at hl 4 rfl) ?_
        refine lv_iload_n hx hb dX4_toUpperCase_47 rfl (lv_at hl 1 rfl) ?_
        refine lv_iload hx hb dX4_toUpperCase_48 (lv_at hl 0 rfl) ?_
        refine lv_bipush (v := nI 32) hx hb dX4_toUpperCase_50 (by decide) ?_
        refine lv_ixor hx hb dX4_toUpperCase_52 ?_
        refine lv_i2c (v := nI (hi (t.getD k 0))) hx hb dX4_toUpperCase_53 (hi_x _ hc hz) ?_
        refine r_cst hF hE hP hD hS 0 rfl (j := k) (by omega) (by omega) (c_vc _ (hi_lt _ hc)) dX4_toUpperCase_54 (fun H_5 locs_5 hP hD hS => ?_)
        have hP : va_P E.1 vwCl [(q, .inl (eC E, t.length, .inl (upd g k (nI (hi (t.getD k 0))))))] H_5 := hP
        have hD : va_D (Nw s.heap.size) [(q, .inl (eC E, t.length, .inl (upd g k (nI (hi (t.getD k 0))))))] := hD
        refine lv_iinc (v := nI (k + 1)) (lv' := [(2, .int (nI (k + 1))), (4, .int (nI (t.getD k 0))), (0, .ref a), (1, .int (nI t.length)), (3, .ref q)]) hx hb dX4_toUpperCase_55 hl (k := 1) rfl (nI_add k 1) (by decide) rfl (fun ls hl => ?_)
        refine lv_goto (tgt := 28) hx hb dX4_toUpperCase_58 (by decide) ?_
        exact ih (k + 1) q _ _ _ ls (by omega) h0 hP hD hS (fun j hj => by
            skip
            by_cases hjk : j = k
            · subst hjk; rw [if_pos (by omega)]; exact pk_us
            · rw [pk_un hjk]; exact (hg j hj).trans (by rw [if_st _ _ hjk])) (lv_sub hl [0, 2, 3, 4] rfl)
  have loop : ∀ (n k : Nat) (ls : Array Slot), (k + n = t.length) → (∀ j, j < k → hi (t.getD j 0) = t.getD j 0) → lv_has ls 5 [(2, .int (nI k)), (0, .ref a), (1, .int (nI t.length))] → W pp l ee ({ frames := 5, cells := 3, slots := 204, locals := 117 } : Room) s mm ([.ref a] : List Value).toArray bw me cd s.heap [] 0 0 (MQ bw (QR (fun r1 H1 => Str E N H1 r1 (t.map hi)) (Nw s.heap.size)) ([.ref a] : List Value).toArray s 3 204 (Nw s.heap.size)) (F0 mm 7 ls []) := by
    intro n
    induction n with
    | zero =>
      intro k ls hk hz hl
      refine lv_iload_n hx hb dX4_toUpperCase_7 rfl (lv_at hl 0 rfl) ?_
      refine lv_iload_n hx hb dX4_toUpperCase_8 rfl (lv_at hl 2 rfl) ?_
      refine lv_icmp_ge (tgt := 72) hx hb dX4_toUpperCase_9 (by decide) (fun c_6 => ?_) (fun c_6 => absurd ((nI_leI (by omega) (by omega)).mpr (by omega)) c_6)
      refine lv_aload_n hx hb dX4_toUpperCase_72 rfl (lv_at hl 1 rfl) ?_
      exact z_QR hF hr hlk (Or.inl ⟨_, rfl⟩) hS (by rw [map_id_of hi_00 (fun j hj => hz j (by omega))]; exact hX) (by omega) (by omega) dX4_toUpperCase_73
    | succ n ih =>
      intro k ls hk hz hl
      refine lv_iload_n hx hb dX4_toUpperCase_7 rfl (lv_at hl 0 rfl) ?_
      refine lv_iload_n hx hb dX4_toUpperCase_8 rfl (lv_at hl 2 rfl) ?_
      refine lv_icmp_ge (tgt := 72) hx hb dX4_toUpperCase_9 (by decide) (fun c_7 => absurd c_7 (fun z => absurd ((nI_leI (by omega) (by omega)).mp z) (by omega))) (fun c_7 => ?_)
      have hc := hT.at k
      refine lv_aload_n hx hb dX4_toUpperCase_12 rfl (lv_at hl 1 rfl) ?_
      refine lv_iload_n hx hb dX4_toUpperCase_13 rfl (lv_at hl 0 rfl) ?_
      refine tI (v := nI (t.getD k 0)) (uV 1 (rest := []) hF hE hS (fun _ z => absurd z id) (m_charAt l E s.heap.size a t k (by omega)) (lw_V q321 q322 q323 q4 q324) (hX.recv hE) hX.no hl.1 rfl dX4_toUpperCase_14 ⟨by show _ ≤ 3; omega, by show _ ≤ 204; omega⟩) ?_
      refine tI (v := nI (isLo (t.getD k 0))) (uS 1 (rest := []) hF hE hS (fun _ z => absurd z id) (m_isLo l E s.heap.size (t.getD k 0) hc) (lw_S q385 q386 q12 q387) trivial hl.1 rfl dX4_toUpperCase_17 ⟨by show _ ≤ 3; omega, by show _ ≤ 204; omega⟩) ?_
      have hle := isLo_le (t.getD k 0)
      refine lv_if_eq (tgt := 66) hx hb dX4_toUpperCase_20 (by decide) (fun c_8 => ?_) (fun c_8 => ?_)
      · skip
        have hzk := (nI_z (by omega)).mp c_8
        refine lv_iinc (v := nI (k + 1)) (lv' := [(2, .int (nI (k + 1))), (0, .ref a), (1, .int (nI t.length))]) hx hb dX4_toUpperCase_66 hl (k := 0) rfl (nI_add k 1) (by decide) rfl (fun ls hl => ?_)
        refine lv_goto (tgt := 7) hx hb dX4_toUpperCase_69 (by decide) ?_
        exact ih (k + 1) ls (by omega) (fun j hj => by
            by_cases hjk : j = k
            · subst hjk; exact isLo_0 hzk
            · exact hz j (by omega)) (lv_sub hl [0, 1, 2] rfl)
      · skip
        refine lv_aload_n hx hb dX4_toUpperCase_23 rfl (lv_at hl 1 rfl) ?_
        refine tQR (uV 0 (rest := []) hF hE hS (fun q z => hA q (Nat.le_trans hS.1 z)) (m_toCA l E s.heap.size a t) (lw_V q339 q340 q341 q4 q342) (hX.recv hE) hX.no hl.1 rfl dX4_toUpperCase_24 ⟨by show _ ≤ 3; omega, by show _ ≤ 204; omega⟩) hS (fun q z => hA q (Nat.le_trans hS.1 z)) (fun q H_9 locs_9 hB hz_9 hk_9 hSn => ?_)
        obtain ⟨g, hP, hq, hgf⟩ := hB
        have hS := hSn
        refine lv_astore_n (lv' := [(3, .ref q), (2, .int (nI k)), (0, .ref a), (1, .int (nI t.length))]) hx hb dX4_toUpperCase_27 rfl hl (by decide) rfl (fun ls hl => ?_)
        exact inner (n + 1) k q g _ _ ls (by omega) (by omega) hP (d_one hq) hS (fun j hj => (hgf j hj).trans (by
            by_cases z : j < k
            · rw [if_pos z, hz j z]; rfl
            · rw [if_neg z]; rfl)) (lv_sub hl [1, 2, 3, 0] rfl)
  exact loop t.length 0 ls (by omega) (fun j hj => absurd hj (Nat.not_lt_zero j)) (lv_sub hl [0, 2, 1] rfl)
set_option maxHeartbeats 4000000 in
/-- equalsIgnoreCase -/
theorem m_X4_eq (l : Launch) (E : EvT) (sz : Nat) (a b : Nat) (t u : List Nat) : Met l yX4_equalsIgnoreCase (ws_ yX4_equalsIgnoreCase cX4_equalsIgnoreCase 7 (some .boolean)) ({ frames := 4, cells := 0, slots := 0, locals := 85 }) (PcE [.ref a, .ref b] E (No) sz (fun H => Str E No H a t ∧ Str E No H b u)) (QI (nI (alk t u))) 0 0 (No) := by
  refine ofE RX4 rfl (by decide) (Nat.le_of_ble_eq_true rfl) ?_
  intro pp ee s mm bw me cd ls hF hr hlk hnm hsz hE hX hl
  subst hsz
  have hx := hF.1
  have hb := hF.2.1
  have hS : va_S (No) s.heap s.heap [] := va_S.rf
  have hl : lv_has ls 7 [(0, .ref a), (1, .ref b)] := hl
  obtain ⟨hX, hY⟩ := hX
  have hT := hX.1
  have hU := hY.1
  have h64 := hT.len
  have h65 := hU.len
  refine lv_aload_n hx hb dX4_equalsIgnoreCase_0 rfl (lv_at hl 0 rfl) ?_
  refine fI (v := nI t.length) (uF 0 (rest := []) hF hE hS (fun _ z => absurd z id) (m_len l E s.heap.size a t) hE.2.2.2.1.1 (lw_F q396 q400 q38 q4 q40) (hX.recv hE) hX hl.1 rfl dX4_equalsIgnoreCase_1 ⟨Nat.le_refl _, Nat.le_refl _⟩) ?_
  refine lv_istore_n (lv' := [(2, .int (nI t.length)), (0, .ref a), (1, .ref b)]) hx hb dX4_equalsIgnoreCase_6 rfl hl (by decide) rfl (fun ls hl => ?_)
  refine lv_aload_n hx hb dX4_equalsIgnoreCase_7 rfl (lv_at hl 1 rfl) ?_
  refine lv_aload_n hx hb dX4_equalsIgnoreCase_8 rfl (lv_at hl 2 rfl) ?_
  refine lv_acmp_ne (rx := some a) (ry := some b) (tgt := 14) hx hb dX4_equalsIgnoreCase_9 (by decide) (fun c_1 => ?_) (fun c_1 => ?_)
  · skip
    refine lv_iload_n hx hb dX4_equalsIgnoreCase_14 rfl (lv_at hl 0 rfl) ?_
    refine lv_aload_n hx hb dX4_equalsIgnoreCase_15 rfl (lv_at hl 2 rfl) ?_
    refine fI (v := nI u.length) (uF 0 (rest := [.int (nI t.length)]) hF hE hS (fun _ z => absurd z id) (m_len l E s.heap.size b u) hE.2.2.2.1.1 (lw_F q396 q400 q38 q4 q40) (hY.recv hE) hY hl.1 rfl dX4_equalsIgnoreCase_16 ⟨Nat.le_refl _, Nat.le_refl _⟩) ?_
    refine lv_icmp_eq (tgt := 26) hx hb dX4_equalsIgnoreCase_21 (by decide) (fun c_2 => ?_) (fun c_2 => ?_)
    · skip
      have hlen : t.length = u.length := (nI_eq (by omega) (by omega)).mp c_2
      refine lv_iconst (v := nI 0) hx hb dX4_equalsIgnoreCase_26 (by decide) ?_
      refine lv_istore_n (lv' := [(3, .int (nI 0)), (2, .int (nI t.length)), (0, .ref a), (1, .ref b)]) hx hb dX4_equalsIgnoreCase_27 rfl hl (by decide) rfl (fun ls hl => ?_)
      have loop : ∀ (n k : Nat) (ls : Array Slot), (k + n = t.length) → (∀ j, j < k → lo (t.getD j 0) = lo (u.getD j 0)) → lv_has ls 7 [(3, .int (nI k)), (0, .ref a), (1, .ref b), (2, .int (nI t.length))] → W pp l ee ({ frames := 4, cells := 0, slots := 0, locals := 85 } : Room) s mm ([.ref a, .ref b] : List Value).toArray bw me cd s.heap [] 0 0 (MQ bw (QI (nI (alk t u))) ([.ref a, .ref b] : List Value).toArray s 0 0 (No)) (F0 mm 28 ls []) := by
        intro n
        induction n with
        | zero =>
          intro k ls hk hz hl
          refine lv_iload_n hx hb dX4_equalsIgnoreCase_28 rfl (lv_at hl 0 rfl) ?_
          refine lv_iload_n hx hb dX4_equalsIgnoreCase_29 rfl (lv_at hl 3 rfl) ?_
          refine lv_icmp_ge (tgt := 96) hx hb dX4_equalsIgnoreCase_30 (by decide) (fun c_3 => ?_) (fun c_3 => absurd ((nI_leI (by omega) (by omega)).mpr (by omega)) c_3)
          refine lv_iconst (v := nI 1) hx hb dX4_equalsIgnoreCase_96 (by decide) ?_
          exact z_I hF hr hlk (rfl) (by rw [alk_1 hlen (fun j hj => hz j (by omega))]) dX4_equalsIgnoreCase_97
        | succ n ih =>
          intro k ls hk hz hl
          refine lv_iload_n hx hb dX4_equalsIgnoreCase_28 rfl (lv_at hl 0 rfl) ?_
          refine lv_iload_n hx hb dX4_equalsIgnoreCase_29 rfl (lv_at hl 3 rfl) ?_
          refine lv_icmp_ge (tgt := 96) hx hb dX4_equalsIgnoreCase_30 (by decide) (fun c_4 => absurd c_4 (fun z => absurd ((nI_leI (by omega) (by omega)).mp z) (by omega))) (fun c_4 => ?_)
          have hc := hT.at k
          have hd := hU.at k
          refine lv_aload_n hx hb dX4_equalsIgnoreCase_33 rfl (lv_at hl 1 rfl) ?_
          refine lv_iload_n hx hb dX4_equalsIgnoreCase_34 rfl (lv_at hl 0 rfl) ?_
          refine fI (v := nI (t.getD k 0)) (uF 1 (rest := []) hF hE hS (fun _ z => absurd z id) (m_charAt l E s.heap.size a t k (by omega)) hE.2.2.2.1.2.1 (lw_F q408 q411 q322 q4 q324) (hX.recv hE) hX hl.1 rfl dX4_equalsIgnoreCase_35 ⟨Nat.le_refl _, Nat.le_refl _⟩) ?_
          refine lv_istore (lv' := [(4, .int (nI (t.getD k 0))), (3, .int (nI k)), (0, .ref a), (1, .ref b), (2, .int (nI t.length))]) hx hb dX4_equalsIgnoreCase_40 hl (by decide) rfl (fun ls hl => ?_)
          refine lv_aload_n hx hb dX4_equalsIgnoreCase_42 rfl (lv_at hl 3 rfl) ?_
          refine lv_iload_n hx hb dX4_equalsIgnoreCase_43 rfl (lv_at hl 1 rfl) ?_
          refine fI (v := nI (u.getD k 0)) (uF 1 (rest := []) hF hE hS (fun _ z => absurd z id) (m_charAt l E s.heap.size b u k (by omega)) hE.2.2.2.1.2.1 (lw_F q408 q411 q322 q4 q324) (hY.recv hE) hY hl.1 rfl dX4_equalsIgnoreCase_44 ⟨Nat.le_refl _, Nat.le_refl _⟩) ?_
          refine lv_istore (lv' := [(5, .int (nI (u.getD k 0))), (4, .int (nI (t.getD k 0))), (3, .int (nI k)), (0, .ref a), (1, .ref b), (2, .int (nI t.length))]) hx hb dX4_equalsIgnoreCase_49 hl (by decide) rfl (fun ls hl => ?_)
          refine lv_iload hx hb dX4_equalsIgnoreCase_51 (lv_at hl 1 rfl) ?_
          refine lv_iload hx hb dX4_equalsIgnoreCase_53 (lv_at hl 0 rfl) ?_
          refine lv_icmp_ne (tgt := 61) hx hb dX4_equalsIgnoreCase_55 (by decide) (fun c_5 => ?_) (fun c_5 => ?_)
          · skip
            have p1 := ai_lo _ hc
            have p2 := ai_lo _ hd
            have p3 := ai_lt (t.getD k 0)
            have p4 := ai_lt (u.getD k 0)
            have hcd : t.getD k 0 ≠ u.getD k 0 := fun z => c_5 (by rw [z])
            refine lv_iload hx hb dX4_equalsIgnoreCase_61 (lv_at hl 1 rfl) ?_
            refine tI (v := nI (ai (t.getD k 0))) (uS 1 (rest := []) hF hE hS (fun _ z => absurd z id) (m_ai l E s.heap.size (t.getD k 0) hc) (lw_S q425 q426 q12 q427) trivial hl.1 rfl dX4_equalsIgnoreCase_63 ⟨Nat.le_refl _, Nat.le_refl _⟩) ?_
            refine lv_istore (lv' := [(6, .int (nI (ai (t.getD k 0)))), (5, .int (nI (u.getD k 0))), (4, .int (nI (t.getD k 0))), (3, .int (nI k)), (0, .ref a), (1, .ref b), (2, .int (nI t.length))]) hx hb dX4_equalsIgnoreCase_66 hl (by decide) rfl (fun ls hl => ?_)
            refine lv_iload hx hb dX4_equalsIgnoreCase_68 (lv_at hl 0 rfl) ?_
            refine lv_bipush (v := nI 26) hx hb dX4_equalsIgnoreCase_70 (by decide) ?_
            refine lv_icmp_ge (tgt := 88) hx hb dX4_equalsIgnoreCase_72 (by decide) (fun c_6 => ?_) (fun c_6 => ?_)
            · skip
              have hai := (nI_leI (by omega) (by omega)).mp c_6
              refine lv_iconst (v := nI 0) hx hb dX4_equalsIgnoreCase_88 (by decide) ?_
              exact z_I hF hr hlk (rfl) (by rw [alk_0 k (by omega)]) dX4_equalsIgnoreCase_89
            · skip
              have hai : ¬ 26 ≤ ai (t.getD k 0) := fun z => c_6 ((nI_leI (by omega) (by omega)).mpr z)
              refine lv_iload hx hb dX4_equalsIgnoreCase_75 (lv_at hl 0 rfl) ?_
              refine lv_iload hx hb dX4_equalsIgnoreCase_77 (lv_at hl 1 rfl) ?_
              refine tI (v := nI (ai (u.getD k 0))) (uS 1 (rest := [.int (nI (ai (t.getD k 0)))]) hF hE hS (fun _ z => absurd z id) (m_ai l E s.heap.size (u.getD k 0) hd) (lw_S q425 q426 q12 q427) trivial hl.1 rfl dX4_equalsIgnoreCase_79 ⟨Nat.le_refl _, Nat.le_refl _⟩) ?_
              refine lv_icmp_ne (tgt := 88) hx hb dX4_equalsIgnoreCase_82 (by decide) (fun c_7 => ?_) (fun c_7 => ?_)
              · skip
                have hai2 : ai (t.getD k 0) ≠ ai (u.getD k 0) := fun z => c_7 (by rw [z])
                refine lv_iconst (v := nI 0) hx hb dX4_equalsIgnoreCase_88 (by decide) ?_
                exact z_I hF hr hlk (rfl) (by rw [alk_0 k (by omega)]) dX4_equalsIgnoreCase_89
              · skip
                have hai2 : ai (t.getD k 0) = ai (u.getD k 0) := (nI_eq (by omega) (by omega)).mp c_7
                refine lv_goto (tgt := 90) hx hb dX4_equalsIgnoreCase_85 (by decide) ?_
                refine lv_iinc (v := nI (k + 1)) (lv' := [(3, .int (nI (k + 1))), (6, .int (nI (ai (t.getD k 0)))), (5, .int (nI (u.getD k 0))), (4, .int (nI (t.getD k 0))), (0, .ref a), (1, .ref b), (2, .int (nI t.length))]) hx hb dX4_equalsIgnoreCase_90 hl (k := 3) rfl (nI_add k 1) (by decide) rfl (fun ls hl => ?_)
                refine lv_goto (tgt := 28) hx hb dX4_equalsIgnoreCase_93 (by decide) ?_
                exact ih (k + 1) ls (by omega) (fun j hj => by
                    by_cases hjk : j = k
                    · subst hjk; omega
                    · exact hz j (by omega)) (lv_sub hl [0, 4, 5, 6] rfl)
          · skip
            have hcd : t.getD k 0 = u.getD k 0 := (nI_eq (by omega) (by omega)).mp c_5
            refine lv_goto (tgt := 90) hx hb dX4_equalsIgnoreCase_58 (by decide) ?_
            refine lv_iinc (v := nI (k + 1)) (lv' := [(3, .int (nI (k + 1))), (5, .int (nI (u.getD k 0))), (4, .int (nI (t.getD k 0))), (0, .ref a), (1, .ref b), (2, .int (nI t.length))]) hx hb dX4_equalsIgnoreCase_90 hl (k := 2) rfl (nI_add k 1) (by decide) rfl (fun ls hl => ?_)
            refine lv_goto (tgt := 28) hx hb dX4_equalsIgnoreCase_93 (by decide) ?_
            exact ih (k + 1) ls (by omega) (fun j hj => by
                by_cases hjk : j = k
                · subst hjk; rw [hcd]
                · exact hz j (by omega)) (lv_sub hl [0, 3, 4, 5] rfl)
      exact loop t.length 0 ls (by omega) (fun j hj => absurd hj (Nat.not_lt_zero j)) (lv_sub hl [0, 2, 3, 1] rfl)
    · skip
      have hlen : t.length ≠ u.length := fun z => c_2 (by rw [z])
      refine lv_iconst (v := nI 0) hx hb dX4_equalsIgnoreCase_24 (by decide) ?_
      exact z_I hF hr hlk (rfl) (by rw [alk_len hlen]) dX4_equalsIgnoreCase_25
  · skip
    cases c_1
    have htu := Str.inj hX hY
    refine lv_iconst (v := nI 1) hx hb dX4_equalsIgnoreCase_12 (by decide) ?_
    exact z_I hF hr hlk (rfl) (by rw [htu, alk_1 rfl (fun _ _ => rfl)]) dX4_equalsIgnoreCase_13
end
section
/-! Guava's Strings -/
set_option maxRecDepth 100000
theorem sub_lt0 {a b : Nat} {x : Int32} {j : Nat} (ha : a < 2 ^ 30) (hb : b < 2 ^ 30) (hj : j < 2 ^ 31) (h : ¬ nI a - nI b < nI j) : j + b ≤ a := by
  rw [Int32.lt_iff_toInt_lt, pk_sub_toInt ha hb, nI_toInt hj] at h
  omega
theorem upd_lt {f : Nat → Int32} {k : Nat} {x : Int32} {P : Nat → Int32 → Prop} (h : ∀ j, j < k → P j (f j)) (hx : P k x) : ∀ j, j < k + 1 → P j (upd f k x j) := by
  intro j hj
  by_cases hjk : j = k
  · subst hjk
    rw [pk_us]
    exact hx
  · rw [pk_un hjk]
    exact h j (by omega)

set_option maxHeartbeats 4000000 in
/-- validSurrogatePairAt -/
theorem m_vsp (l : Launch) (E : EvT) (sz : Nat) (a : Nat) (t : List Nat) (x : Int32) : Met l yX2_validSurrogatePairAt (ws_ yX2_validSurrogatePairAt cX2_validSurrogatePairAt 2 (some .boolean)) ({ frames := 4, cells := 0, slots := 0, locals := 85 }) (PcE [.ref a, .int (x)] E (No) sz (fun H => Str E No H a t)) (QI (nI 0)) 0 0 (No) := by
  refine ofE RX2 rfl (by decide) (Nat.le_of_ble_eq_true rfl) ?_
  intro pp ee s mm bw me cd ls hF hr hlk hnm hsz hE hX hl
  subst hsz
  have hx := hF.1
  have hb := hF.2.1
  have hS : va_S (No) s.heap s.heap [] := va_S.rf
  have hl : lv_has ls 2 [(0, .ref a), (1, .int (x))] := hl
  have hT := hX.1
  have h64 := hT.len
  refine lv_iload_n hx hb dX2_validSurrogatePairAt_0 rfl (lv_at hl 1 rfl) ?_
  refine lv_if_lt (tgt := 48) hx hb dX2_validSurrogatePairAt_1 (by decide) (fun c_1 => ?_) (fun c_1 => ?_)
  · skip
    refine lv_iconst (v := nI 0) hx hb dX2_validSurrogatePairAt_48 (by decide) ?_
    exact z_I hF hr hlk (rfl) rfl dX2_validSurrogatePairAt_49
  · skip
    obtain ⟨j, hj, rfl⟩ := nI_of c_1
    refine lv_iload_n hx hb dX2_validSurrogatePairAt_4 rfl (lv_at hl 1 rfl) ?_
    refine lv_aload_n hx hb dX2_validSurrogatePairAt_5 rfl (lv_at hl 0 rfl) ?_
    refine fI (v := nI t.length) (uF 0 (rest := [.int (nI j)]) hF hE hS (fun _ z => absurd z id) (m_len l E s.heap.size a t) hE.2.2.2.1.1 (lw_F q465 q400 q38 q4 q40) (hX.recv hE) hX hl.1 rfl dX2_validSurrogatePairAt_6 ⟨Nat.le_refl _, Nat.le_refl _⟩) ?_
    refine lv_iconst (v := nI 2) hx hb dX2_validSurrogatePairAt_11 (by decide) ?_
    refine lv_isub hx hb dX2_validSurrogatePairAt_12 ?_
    refine lv_icmp_gt (tgt := 48) hx hb dX2_validSurrogatePairAt_13 (by decide) (fun c_2 => ?_) (fun c_2 => ?_)
    · skip
      refine lv_iconst (v := nI 0) hx hb dX2_validSurrogatePairAt_48 (by decide) ?_
      exact z_I hF hr hlk (rfl) rfl dX2_validSurrogatePairAt_49
    · skip
      have hjl := sub_lt0 (x := 0) (by omega) (by decide) hj c_2
      refine lv_aload_n hx hb dX2_validSurrogatePairAt_16 rfl (lv_at hl 0 rfl) ?_
      refine lv_iload_n hx hb dX2_validSurrogatePairAt_17 rfl (lv_at hl 1 rfl) ?_
      refine fI (v := nI (t.getD j 0)) (uF 1 (rest := []) hF hE hS (fun _ z => absurd z id) (m_charAt l E s.heap.size a t j (by omega)) hE.2.2.2.1.2.1 (lw_F q468 q411 q322 q4 q324) (hX.recv hE) hX hl.1 rfl dX2_validSurrogatePairAt_18 ⟨Nat.le_refl _, Nat.le_refl _⟩) ?_
      refine tI (v := nI 0) (uS 1 (rest := []) hF hE hS (fun _ z => absurd z id) (m_high l E s.heap.size (t.getD j 0) (hT.at j)) (lw_S q472 q473 q9 q474) trivial hl.1 rfl dX2_validSurrogatePairAt_23 ⟨Nat.le_refl _, Nat.le_refl _⟩) ?_
      refine lv_if_eq (tgt := 48) hx hb dX2_validSurrogatePairAt_26 (by decide) (fun c_3 => ?_) (fun c_3 => absurd nI_0 c_3)
      refine lv_iconst (v := nI 0) hx hb dX2_validSurrogatePairAt_48 (by decide) ?_
      exact z_I hF hr hlk (rfl) rfl dX2_validSurrogatePairAt_49
set_option maxHeartbeats 4000000 in
/-- commonPrefix -/
theorem m_X2_pfx (l : Launch) (E : EvT) (sz : Nat) (a b : Nat) (t u : List Nat) : Met l yX2_commonPrefix (ws_ yX2_commonPrefix cX2_commonPrefix 4 (some (.object "java/lang/String"))) ({ frames := 6, cells := 2, slots := 204, locals := 174 }) (PcE [.ref a, .ref b] E (Nw sz) sz (fun H => Str E No H a t ∧ Str E No H b u)) (QR (fun r1 H1 => ∃ w : List Nat, Str E No H1 r1 w ∧ w.length = pfx t u) (Nw sz)) 2 204 (Nw sz) := by
  refine ofE RX2 rfl (by decide) (Nat.le_of_ble_eq_true rfl) ?_
  intro pp ee s mm bw me cd ls hF hr hlk hnm hsz hE hX hl
  subst hsz
  have hx := hF.1
  have hb := hF.2.1
  have hS : va_S (Nw s.heap.size) s.heap s.heap [] := va_S.rf
  have hl : lv_has ls 4 [(0, .ref a), (1, .ref b)] := hl
  have hA : ∀ q, s.heap.size ≤ q → (Nw s.heap.size) q := fun _ h => h
  obtain ⟨hX, hY⟩ := hX
  have hT := hX.1
  have hU := hY.1
  have h64 := hT.len
  have h65 := hU.len
  have hpl := pfx_le t u
  refine lv_aload_n hx hb dX2_commonPrefix_0 rfl (lv_at hl 0 rfl) ?_
  refine tR (v := a) (uS 1 (rest := []) hF hE hS (fun _ z => absurd z id) (m_cnn l E s.heap.size a) (lw_S q292 q293 q3 q294) trivial hl.1 rfl dX2_commonPrefix_1 ⟨by show _ ≤ 2; omega, by show _ ≤ 204; omega⟩) ?_
  refine lv_pop hx hb dX2_commonPrefix_4 rfl ?_
  refine lv_aload_n hx hb dX2_commonPrefix_5 rfl (lv_at hl 1 rfl) ?_
  refine tR (v := b) (uS 1 (rest := []) hF hE hS (fun _ z => absurd z id) (m_cnn l E s.heap.size b) (lw_S q292 q293 q3 q294) trivial hl.1 rfl dX2_commonPrefix_6 ⟨by show _ ≤ 2; omega, by show _ ≤ 204; omega⟩) ?_
  refine lv_pop hx hb dX2_commonPrefix_9 rfl ?_
  refine lv_aload_n hx hb dX2_commonPrefix_10 rfl (lv_at hl 0 rfl) ?_
  refine fI (v := nI t.length) (uF 0 (rest := []) hF hE hS (fun _ z => absurd z id) (m_len l E s.heap.size a t) hE.2.2.2.1.1 (lw_F q465 q400 q38 q4 q40) (hX.recv hE) hX hl.1 rfl dX2_commonPrefix_11 ⟨by show _ ≤ 2; omega, by show _ ≤ 204; omega⟩) ?_
  refine lv_aload_n hx hb dX2_commonPrefix_16 rfl (lv_at hl 1 rfl) ?_
  refine fI (v := nI u.length) (uF 0 (rest := [.int (nI t.length)]) hF hE hS (fun _ z => absurd z id) (m_len l E s.heap.size b u) hE.2.2.2.1.1 (lw_F q465 q400 q38 q4 q40) (hY.recv hE) hY hl.1 rfl dX2_commonPrefix_17 ⟨by show _ ≤ 2; omega, by show _ ≤ 204; omega⟩) ?_
  refine va_mmin hx hb (by rw [hF.2.2.1]; exact hl.1.symm) hF.2.2.2.1 (hF.2.2.2.2 _ q466) (hF.2.2.2.2 _ q113) (hF.2.2.2.2 _ q5) (hF.2.2.2.2 _ q114) (Nat.le_of_ble_eq_true rfl) (Nat.le_of_ble_eq_true rfl) (by show _ ≤ 2; omega) (by show _ ≤ 204; omega) dX2_commonPrefix_22 ?_
  refine w_to (nI (min t.length u.length)) (min_nI2 (by omega) (by omega)) ?_
  refine lv_istore_n (lv' := [(2, .int (nI (min t.length u.length))), (0, .ref a), (1, .ref b)]) hx hb dX2_commonPrefix_25 rfl hl (by decide) rfl (fun ls hl => ?_)
  refine lv_iconst (v := nI 0) hx hb dX2_commonPrefix_26 (by decide) ?_
  refine lv_istore_n (lv' := [(3, .int (nI 0)), (2, .int (nI (min t.length u.length))), (0, .ref a), (1, .ref b)]) hx hb dX2_commonPrefix_27 rfl hl (by decide) rfl (fun ls hl => ?_)
  have after : ∀ (ls : Array Slot), lv_has ls 4 [(3, .int (nI (pfx t u))), (0, .ref a), (1, .ref b), (2, .int (nI (min t.length u.length)))] → W pp l ee ({ frames := 6, cells := 2, slots := 204, locals := 174 } : Room) s mm ([.ref a, .ref b] : List Value).toArray bw me cd s.heap [] 0 0 (MQ bw (QR (fun r1 H1 => ∃ w : List Nat, Str E No H1 r1 w ∧ w.length = pfx t u) (Nw s.heap.size)) ([.ref a, .ref b] : List Value).toArray s 2 204 (Nw s.heap.size)) (F0 mm 56 ls []) := by
    intro ls hl
    refine lv_aload_n hx hb dX2_commonPrefix_56 rfl (lv_at hl 1 rfl) ?_
    refine lv_iload_n hx hb dX2_commonPrefix_57 rfl (lv_at hl 0 rfl) ?_
    refine lv_iconst (v := nI 1) hx hb dX2_commonPrefix_58 (by decide) ?_
    refine lv_isub hx hb dX2_commonPrefix_59 ?_
    refine tI (v := nI 0) (uS 2 (rest := []) hF hE hS (fun _ z => absurd z id) (m_vsp l E s.heap.size a t ((nI (pfx t u)) - (nI 1))) (lw_S q469 q470 q2 q471) hX hl.1 rfl dX2_commonPrefix_60 ⟨by show _ ≤ 2; omega, by show _ ≤ 204; omega⟩) ?_
    refine lv_if_ne (tgt := 76) hx hb dX2_commonPrefix_63 (by decide) (fun c_1 => absurd nI_0 c_1) (fun c_1 => ?_)
    refine lv_aload_n hx hb dX2_commonPrefix_66 rfl (lv_at hl 2 rfl) ?_
    refine lv_iload_n hx hb dX2_commonPrefix_67 rfl (lv_at hl 0 rfl) ?_
    refine lv_iconst (v := nI 1) hx hb dX2_commonPrefix_68 (by decide) ?_
    refine lv_isub hx hb dX2_commonPrefix_69 ?_
    refine tI (v := nI 0) (uS 2 (rest := []) hF hE hS (fun _ z => absurd z id) (m_vsp l E s.heap.size b u ((nI (pfx t u)) - (nI 1))) (lw_S q469 q470 q2 q471) hY hl.1 rfl dX2_commonPrefix_70 ⟨by show _ ≤ 2; omega, by show _ ≤ 204; omega⟩) ?_
    refine lv_if_eq (tgt := 79) hx hb dX2_commonPrefix_73 (by decide) (fun c_2 => ?_) (fun c_2 => absurd nI_0 c_2)
    refine lv_aload_n hx hb dX2_commonPrefix_79 rfl (lv_at hl 1 rfl) ?_
    refine lv_iconst (v := nI 0) hx hb dX2_commonPrefix_80 (by decide) ?_
    refine lv_iload_n hx hb dX2_commonPrefix_81 rfl (lv_at hl 0 rfl) ?_
    refine fQR (uF 2 (rest := []) hF hE hS (fun q z => hA q (Nat.le_trans hS.1 z)) (m_subq l E s.heap.size a t 0 (pfx t u) (Nat.zero_le _) (by omega)) hE.2.2.2.1.2.2.1 (lw_F q482 q485 q487 q4 q489) (hX.recv hE) hX hl.1 rfl dX2_commonPrefix_82 ⟨by show _ ≤ 2; omega, by show _ ≤ 204; omega⟩) hS (fun q z => hA q (Nat.le_trans hS.1 z)) (fun r1 H_3 locs_3 hB hz_3 hk_3 hSn => ?_)
    have hS := hSn
    refine fR (v := r1) (uF 0 (rest := []) hF hE hS (fun _ z => absurd z id) (m_toStr l E H_3.size r1) hE.2.2.2.1.2.2.2 (lw_F q535 q538 q540 q4 q542) (hB.recv hE) trivial hl.1 rfl dX2_commonPrefix_87 ⟨by show _ ≤ 2; omega, by show _ ≤ 204; omega⟩) ?_
    exact z_QR hF hr hlk (Or.inl ⟨_, rfl⟩) hS ⟨_, hB, (by rw [List.length_take, List.length_drop]; omega)⟩ (by omega) (by omega) dX2_commonPrefix_92
  have loop : ∀ (n k : Nat) (ls : Array Slot), (k + n = min t.length u.length) → (∀ j, j < k → t.getD j 0 = u.getD j 0) → lv_has ls 4 [(3, .int (nI k)), (0, .ref a), (1, .ref b), (2, .int (nI (min t.length u.length)))] → W pp l ee ({ frames := 6, cells := 2, slots := 204, locals := 174 } : Room) s mm ([.ref a, .ref b] : List Value).toArray bw me cd s.heap [] 0 0 (MQ bw (QR (fun r1 H1 => ∃ w : List Nat, Str E No H1 r1 w ∧ w.length = pfx t u) (Nw s.heap.size)) ([.ref a, .ref b] : List Value).toArray s 2 204 (Nw s.heap.size)) (F0 mm 28 ls []) := by
    intro n
    induction n with
    | zero =>
      intro k ls hk hz hl
      refine lv_iload_n hx hb dX2_commonPrefix_28 rfl (lv_at hl 0 rfl) ?_
      refine lv_iload_n hx hb dX2_commonPrefix_29 rfl (lv_at hl 3 rfl) ?_
      refine lv_icmp_ge (tgt := 56) hx hb dX2_commonPrefix_30 (by decide) (fun c_4 => ?_) (fun c_4 => absurd ((nI_leI (by omega) (by omega)).mpr (by omega)) c_4)
      have hcp : k = pfx t u := cp_eq (by omega) hz (fun z => absurd z (by omega))
      exact after ls (hcp ▸ hl)
    | succ n ih =>
      intro k ls hk hz hl
      have hkt : k < t.length := by omega
      have hku : k < u.length := by omega
      refine lv_iload_n hx hb dX2_commonPrefix_28 rfl (lv_at hl 0 rfl) ?_
      refine lv_iload_n hx hb dX2_commonPrefix_29 rfl (lv_at hl 3 rfl) ?_
      refine lv_icmp_ge (tgt := 56) hx hb dX2_commonPrefix_30 (by decide) (fun c_5 => absurd c_5 (fun z => absurd ((nI_leI (by omega) (by omega)).mp z) (by omega))) (fun c_5 => ?_)
      refine lv_aload_n hx hb dX2_commonPrefix_33 rfl (lv_at hl 1 rfl) ?_
      refine lv_iload_n hx hb dX2_commonPrefix_34 rfl (lv_at hl 0 rfl) ?_
      refine fI (v := nI (t.getD k 0)) (uF 1 (rest := []) hF hE hS (fun _ z => absurd z id) (m_charAt l E s.heap.size a t k (by omega)) hE.2.2.2.1.2.1 (lw_F q468 q411 q322 q4 q324) (hX.recv hE) hX hl.1 rfl dX2_commonPrefix_35 ⟨by show _ ≤ 2; omega, by show _ ≤ 204; omega⟩) ?_
      refine lv_aload_n hx hb dX2_commonPrefix_40 rfl (lv_at hl 2 rfl) ?_
      refine lv_iload_n hx hb dX2_commonPrefix_41 rfl (lv_at hl 0 rfl) ?_
      refine fI (v := nI (u.getD k 0)) (uF 1 (rest := [.int (nI (t.getD k 0))]) hF hE hS (fun _ z => absurd z id) (m_charAt l E s.heap.size b u k (by omega)) hE.2.2.2.1.2.1 (lw_F q468 q411 q322 q4 q324) (hY.recv hE) hY hl.1 rfl dX2_commonPrefix_42 ⟨by show _ ≤ 2; omega, by show _ ≤ 204; omega⟩) ?_
      have hc := hT.at k
      have hd := hU.at k
      refine lv_icmp_ne (tgt := 56) hx hb dX2_commonPrefix_47 (by decide) (fun c_6 => ?_) (fun c_6 => ?_)
      · skip
        have hcp : k = pfx t u := cp_eq (by omega) hz (fun _ z => c_6 (congrArg nI z))
        exact after ls (hcp ▸ hl)
      · skip
        have hcd : t.getD k 0 = u.getD k 0 := (nI_eq (by omega) (by omega)).mp c_6
        refine lv_iinc (v := nI (k + 1)) (lv' := [(3, .int (nI (k + 1))), (0, .ref a), (1, .ref b), (2, .int (nI (min t.length u.length)))]) hx hb dX2_commonPrefix_50 hl (k := 0) rfl (nI_add k 1) (by decide) rfl (fun ls hl => ?_)
        refine lv_goto (tgt := 28) hx hb dX2_commonPrefix_53 (by decide) ?_
        exact ih (k + 1) ls (by omega) (fun j hj => by
            by_cases hjk : j = k
            · subst hjk; exact hcd
            · exact hz j (by omega)) (lv_sub hl [0, 1, 2, 3] rfl)
  exact loop (min t.length u.length) 0 ls (by omega) (fun j hj => absurd hj (Nat.not_lt_zero j)) (lv_sub hl [0, 2, 3, 1] rfl)
set_option maxHeartbeats 4000000 in
/-- commonSuffix -/
theorem m_X2_sfx (l : Launch) (E : EvT) (sz : Nat) (a b : Nat) (t u : List Nat) : Met l yX2_commonSuffix (ws_ yX2_commonSuffix cX2_commonSuffix 4 (some (.object "java/lang/String"))) ({ frames := 6, cells := 2, slots := 204, locals := 174 }) (PcE [.ref a, .ref b] E (Nw sz) sz (fun H => Str E No H a t ∧ Str E No H b u)) (QR (fun r1 H1 => ∃ w : List Nat, Str E No H1 r1 w ∧ w.length = sfx t u) (Nw sz)) 2 204 (Nw sz) := by
  refine ofE RX2 rfl (by decide) (Nat.le_of_ble_eq_true rfl) ?_
  intro pp ee s mm bw me cd ls hF hr hlk hnm hsz hE hX hl
  subst hsz
  have hx := hF.1
  have hb := hF.2.1
  have hS : va_S (Nw s.heap.size) s.heap s.heap [] := va_S.rf
  have hl : lv_has ls 4 [(0, .ref a), (1, .ref b)] := hl
  have hA : ∀ q, s.heap.size ≤ q → (Nw s.heap.size) q := fun _ h => h
  obtain ⟨hX, hY⟩ := hX
  have hT := hX.1
  have hU := hY.1
  have h64 := hT.len
  have h65 := hU.len
  have hpl := sfx_le t u
  refine lv_aload_n hx hb dX2_commonSuffix_0 rfl (lv_at hl 0 rfl) ?_
  refine tR (v := a) (uS 1 (rest := []) hF hE hS (fun _ z => absurd z id) (m_cnn l E s.heap.size a) (lw_S q292 q293 q3 q294) trivial hl.1 rfl dX2_commonSuffix_1 ⟨by show _ ≤ 2; omega, by show _ ≤ 204; omega⟩) ?_
  refine lv_pop hx hb dX2_commonSuffix_4 rfl ?_
  refine lv_aload_n hx hb dX2_commonSuffix_5 rfl (lv_at hl 1 rfl) ?_
  refine tR (v := b) (uS 1 (rest := []) hF hE hS (fun _ z => absurd z id) (m_cnn l E s.heap.size b) (lw_S q292 q293 q3 q294) trivial hl.1 rfl dX2_commonSuffix_6 ⟨by show _ ≤ 2; omega, by show _ ≤ 204; omega⟩) ?_
  refine lv_pop hx hb dX2_commonSuffix_9 rfl ?_
  refine lv_aload_n hx hb dX2_commonSuffix_10 rfl (lv_at hl 0 rfl) ?_
  refine fI (v := nI t.length) (uF 0 (rest := []) hF hE hS (fun _ z => absurd z id) (m_len l E s.heap.size a t) hE.2.2.2.1.1 (lw_F q465 q400 q38 q4 q40) (hX.recv hE) hX hl.1 rfl dX2_commonSuffix_11 ⟨by show _ ≤ 2; omega, by show _ ≤ 204; omega⟩) ?_
  refine lv_aload_n hx hb dX2_commonSuffix_16 rfl (lv_at hl 1 rfl) ?_
  refine fI (v := nI u.length) (uF 0 (rest := [.int (nI t.length)]) hF hE hS (fun _ z => absurd z id) (m_len l E s.heap.size b u) hE.2.2.2.1.1 (lw_F q465 q400 q38 q4 q40) (hY.recv hE) hY hl.1 rfl dX2_commonSuffix_17 ⟨by show _ ≤ 2; omega, by show _ ≤ 204; omega⟩) ?_
  refine va_mmin hx hb (by rw [hF.2.2.1]; exact hl.1.symm) hF.2.2.2.1 (hF.2.2.2.2 _ q466) (hF.2.2.2.2 _ q113) (hF.2.2.2.2 _ q5) (hF.2.2.2.2 _ q114) (Nat.le_of_ble_eq_true rfl) (Nat.le_of_ble_eq_true rfl) (by show _ ≤ 2; omega) (by show _ ≤ 204; omega) dX2_commonSuffix_22 ?_
  refine w_to (nI (min t.length u.length)) (min_nI2 (by omega) (by omega)) ?_
  refine lv_istore_n (lv' := [(2, .int (nI (min t.length u.length))), (0, .ref a), (1, .ref b)]) hx hb dX2_commonSuffix_25 rfl hl (by decide) rfl (fun ls hl => ?_)
  refine lv_iconst (v := nI 0) hx hb dX2_commonSuffix_26 (by decide) ?_
  refine lv_istore_n (lv' := [(3, .int (nI 0)), (2, .int (nI (min t.length u.length))), (0, .ref a), (1, .ref b)]) hx hb dX2_commonSuffix_27 rfl hl (by decide) rfl (fun ls hl => ?_)
  have after : ∀ (ls : Array Slot), lv_has ls 4 [(3, .int (nI (sfx t u))), (0, .ref a), (1, .ref b), (2, .int (nI (min t.length u.length)))] → W pp l ee ({ frames := 6, cells := 2, slots := 204, locals := 174 } : Room) s mm ([.ref a, .ref b] : List Value).toArray bw me cd s.heap [] 0 0 (MQ bw (QR (fun r1 H1 => ∃ w : List Nat, Str E No H1 r1 w ∧ w.length = sfx t u) (Nw s.heap.size)) ([.ref a, .ref b] : List Value).toArray s 2 204 (Nw s.heap.size)) (F0 mm 74 ls []) := by
    intro ls hl
    refine lv_aload_n hx hb dX2_commonSuffix_74 rfl (lv_at hl 1 rfl) ?_
    refine lv_aload_n hx hb dX2_commonSuffix_75 rfl (lv_at hl 1 rfl) ?_
    refine fI (v := nI t.length) (uF 0 (rest := [.ref a]) hF hE hS (fun _ z => absurd z id) (m_len l E s.heap.size a t) hE.2.2.2.1.1 (lw_F q465 q400 q38 q4 q40) (hX.recv hE) hX hl.1 rfl dX2_commonSuffix_76 ⟨by show _ ≤ 2; omega, by show _ ≤ 204; omega⟩) ?_
    refine lv_iload_n hx hb dX2_commonSuffix_81 rfl (lv_at hl 0 rfl) ?_
    refine lv_isub hx hb dX2_commonSuffix_82 ?_
    refine w_to (nI (t.length - (sfx t u))) (pk_sub (by omega)) ?_
    refine lv_iconst (v := nI 1) hx hb dX2_commonSuffix_83 (by decide) ?_
    refine lv_isub hx hb dX2_commonSuffix_84 ?_
    refine tI (v := nI 0) (uS 2 (rest := []) hF hE hS (fun _ z => absurd z id) (m_vsp l E s.heap.size a t ((nI (t.length - (sfx t u))) - (nI 1))) (lw_S q469 q470 q2 q471) hX hl.1 rfl dX2_commonSuffix_85 ⟨by show _ ≤ 2; omega, by show _ ≤ 204; omega⟩) ?_
    refine lv_if_ne (tgt := 108) hx hb dX2_commonSuffix_88 (by decide) (fun c_1 => absurd nI_0 c_1) (fun c_1 => ?_)
    refine lv_aload_n hx hb dX2_commonSuffix_91 rfl (lv_at hl 2 rfl) ?_
    refine lv_aload_n hx hb dX2_commonSuffix_92 rfl (lv_at hl 2 rfl) ?_
    refine fI (v := nI u.length) (uF 0 (rest := [.ref b]) hF hE hS (fun _ z => absurd z id) (m_len l E s.heap.size b u) hE.2.2.2.1.1 (lw_F q465 q400 q38 q4 q40) (hY.recv hE) hY hl.1 rfl dX2_commonSuffix_93 ⟨by show _ ≤ 2; omega, by show _ ≤ 204; omega⟩) ?_
    refine lv_iload_n hx hb dX2_commonSuffix_98 rfl (lv_at hl 0 rfl) ?_
    refine lv_isub hx hb dX2_commonSuffix_99 ?_
    refine w_to (nI (u.length - (sfx t u))) (pk_sub (by omega)) ?_
    refine lv_iconst (v := nI 1) hx hb dX2_commonSuffix_100 (by decide) ?_
    refine lv_isub hx hb dX2_commonSuffix_101 ?_
    refine tI (v := nI 0) (uS 2 (rest := []) hF hE hS (fun _ z => absurd z id) (m_vsp l E s.heap.size b u ((nI (u.length - (sfx t u))) - (nI 1))) (lw_S q469 q470 q2 q471) hY hl.1 rfl dX2_commonSuffix_102 ⟨by show _ ≤ 2; omega, by show _ ≤ 204; omega⟩) ?_
    refine lv_if_eq (tgt := 111) hx hb dX2_commonSuffix_105 (by decide) (fun c_2 => ?_) (fun c_2 => absurd nI_0 c_2)
    refine lv_aload_n hx hb dX2_commonSuffix_111 rfl (lv_at hl 1 rfl) ?_
    refine lv_aload_n hx hb dX2_commonSuffix_112 rfl (lv_at hl 1 rfl) ?_
    refine fI (v := nI t.length) (uF 0 (rest := [.ref a]) hF hE hS (fun _ z => absurd z id) (m_len l E s.heap.size a t) hE.2.2.2.1.1 (lw_F q465 q400 q38 q4 q40) (hX.recv hE) hX hl.1 rfl dX2_commonSuffix_113 ⟨by show _ ≤ 2; omega, by show _ ≤ 204; omega⟩) ?_
    refine lv_iload_n hx hb dX2_commonSuffix_118 rfl (lv_at hl 0 rfl) ?_
    refine lv_isub hx hb dX2_commonSuffix_119 ?_
    refine w_to (nI (t.length - (sfx t u))) (pk_sub (by omega)) ?_
    refine lv_aload_n hx hb dX2_commonSuffix_120 rfl (lv_at hl 1 rfl) ?_
    refine fI (v := nI t.length) (uF 0 (rest := [.int (nI (t.length - (sfx t u))), .ref a]) hF hE hS (fun _ z => absurd z id) (m_len l E s.heap.size a t) hE.2.2.2.1.1 (lw_F q465 q400 q38 q4 q40) (hX.recv hE) hX hl.1 rfl dX2_commonSuffix_121 ⟨by show _ ≤ 2; omega, by show _ ≤ 204; omega⟩) ?_
    refine fQR (uF 2 (rest := []) hF hE hS (fun q z => hA q (Nat.le_trans hS.1 z)) (m_subq l E s.heap.size a t (t.length - sfx t u) t.length (Nat.sub_le _ _) (Nat.le_refl _)) hE.2.2.2.1.2.2.1 (lw_F q482 q485 q487 q4 q489) (hX.recv hE) hX hl.1 rfl dX2_commonSuffix_126 ⟨by show _ ≤ 2; omega, by show _ ≤ 204; omega⟩) hS (fun q z => hA q (Nat.le_trans hS.1 z)) (fun r1 H_3 locs_3 hB hz_3 hk_3 hSn => ?_)
    have hS := hSn
    refine fR (v := r1) (uF 0 (rest := []) hF hE hS (fun _ z => absurd z id) (m_toStr l E H_3.size r1) hE.2.2.2.1.2.2.2 (lw_F q535 q538 q540 q4 q542) (hB.recv hE) trivial hl.1 rfl dX2_commonSuffix_131 ⟨by show _ ≤ 2; omega, by show _ ≤ 204; omega⟩) ?_
    exact z_QR hF hr hlk (Or.inl ⟨_, rfl⟩) hS ⟨_, hB, (by rw [List.length_take, List.length_drop]; omega)⟩ (by omega) (by omega) dX2_commonSuffix_136
  have loop : ∀ (n k : Nat) (ls : Array Slot), (k + n = min t.length u.length) → (∀ j, j < k → t.getD (t.length - j - 1) 0 = u.getD (u.length - j - 1) 0) → lv_has ls 4 [(3, .int (nI k)), (0, .ref a), (1, .ref b), (2, .int (nI (min t.length u.length)))] → W pp l ee ({ frames := 6, cells := 2, slots := 204, locals := 174 } : Room) s mm ([.ref a, .ref b] : List Value).toArray bw me cd s.heap [] 0 0 (MQ bw (QR (fun r1 H1 => ∃ w : List Nat, Str E No H1 r1 w ∧ w.length = sfx t u) (Nw s.heap.size)) ([.ref a, .ref b] : List Value).toArray s 2 204 (Nw s.heap.size)) (F0 mm 28 ls []) := by
    intro n
    induction n with
    | zero =>
      intro k ls hk hz hl
      refine lv_iload_n hx hb dX2_commonSuffix_28 rfl (lv_at hl 0 rfl) ?_
      refine lv_iload_n hx hb dX2_commonSuffix_29 rfl (lv_at hl 3 rfl) ?_
      refine lv_icmp_ge (tgt := 74) hx hb dX2_commonSuffix_30 (by decide) (fun c_4 => ?_) (fun c_4 => absurd ((nI_leI (by omega) (by omega)).mpr (by omega)) c_4)
      have hcp : k = sfx t u := cp_eq (by omega) hz (fun z => absurd z (by omega))
      exact after ls (hcp ▸ hl)
    | succ n ih =>
      intro k ls hk hz hl
      have hkt : k < t.length := by omega
      have hku : k < u.length := by omega
      refine lv_iload_n hx hb dX2_commonSuffix_28 rfl (lv_at hl 0 rfl) ?_
      refine lv_iload_n hx hb dX2_commonSuffix_29 rfl (lv_at hl 3 rfl) ?_
      refine lv_icmp_ge (tgt := 74) hx hb dX2_commonSuffix_30 (by decide) (fun c_5 => absurd c_5 (fun z => absurd ((nI_leI (by omega) (by omega)).mp z) (by omega))) (fun c_5 => ?_)
      refine lv_aload_n hx hb dX2_commonSuffix_33 rfl (lv_at hl 1 rfl) ?_
      refine lv_aload_n hx hb dX2_commonSuffix_34 rfl (lv_at hl 1 rfl) ?_
      refine fI (v := nI t.length) (uF 0 (rest := [.ref a]) hF hE hS (fun _ z => absurd z id) (m_len l E s.heap.size a t) hE.2.2.2.1.1 (lw_F q465 q400 q38 q4 q40) (hX.recv hE) hX hl.1 rfl dX2_commonSuffix_35 ⟨by show _ ≤ 2; omega, by show _ ≤ 204; omega⟩) ?_
      refine lv_iload_n hx hb dX2_commonSuffix_40 rfl (lv_at hl 0 rfl) ?_
      refine lv_isub hx hb dX2_commonSuffix_41 ?_
      refine w_to (nI (t.length - k)) (pk_sub (by omega)) ?_
      refine lv_iconst (v := nI 1) hx hb dX2_commonSuffix_42 (by decide) ?_
      refine lv_isub hx hb dX2_commonSuffix_43 ?_
      refine w_to (nI ((t.length - k) - 1)) (pk_sub (by omega)) ?_
      refine fI (v := nI (t.getD (t.length - k - 1) 0)) (uF 1 (rest := []) hF hE hS (fun _ z => absurd z id) (m_charAt l E s.heap.size a t (t.length - k - 1) (by omega)) hE.2.2.2.1.2.1 (lw_F q468 q411 q322 q4 q324) (hX.recv hE) hX hl.1 rfl dX2_commonSuffix_44 ⟨by show _ ≤ 2; omega, by show _ ≤ 204; omega⟩) ?_
      refine lv_aload_n hx hb dX2_commonSuffix_49 rfl (lv_at hl 2 rfl) ?_
      refine lv_aload_n hx hb dX2_commonSuffix_50 rfl (lv_at hl 2 rfl) ?_
      refine fI (v := nI u.length) (uF 0 (rest := [.ref b, .int (nI (t.getD (t.length - k - 1) 0))]) hF hE hS (fun _ z => absurd z id) (m_len l E s.heap.size b u) hE.2.2.2.1.1 (lw_F q465 q400 q38 q4 q40) (hY.recv hE) hY hl.1 rfl dX2_commonSuffix_51 ⟨by show _ ≤ 2; omega, by show _ ≤ 204; omega⟩) ?_
      refine lv_iload_n hx hb dX2_commonSuffix_56 rfl (lv_at hl 0 rfl) ?_
      refine lv_isub hx hb dX2_commonSuffix_57 ?_
      refine w_to (nI (u.length - k)) (pk_sub (by omega)) ?_
      refine lv_iconst (v := nI 1) hx hb dX2_commonSuffix_58 (by decide) ?_
      refine lv_isub hx hb dX2_commonSuffix_59 ?_
      refine w_to (nI ((u.length - k) - 1)) (pk_sub (by omega)) ?_
      refine fI (v := nI (u.getD (u.length - k - 1) 0)) (uF 1 (rest := [.int (nI (t.getD (t.length - k - 1) 0))]) hF hE hS (fun _ z => absurd z id) (m_charAt l E s.heap.size b u (u.length - k - 1) (by omega)) hE.2.2.2.1.2.1 (lw_F q468 q411 q322 q4 q324) (hY.recv hE) hY hl.1 rfl dX2_commonSuffix_60 ⟨by show _ ≤ 2; omega, by show _ ≤ 204; omega⟩) ?_
      have hc := hT.at (t.length - k - 1)
      have hd := hU.at (u.length - k - 1)
      refine lv_icmp_ne (tgt := 74) hx hb dX2_commonSuffix_65 (by decide) (fun c_6 => ?_) (fun c_6 => ?_)
      · skip
        have hcp : k = sfx t u := cp_eq (by omega) hz (fun _ z => c_6 (congrArg nI z))
        exact after ls (hcp ▸ hl)
      · skip
        have hcd : t.getD (t.length - k - 1) 0 = u.getD (u.length - k - 1) 0 := (nI_eq (by omega) (by omega)).mp c_6
        refine lv_iinc (v := nI (k + 1)) (lv' := [(3, .int (nI (k + 1))), (0, .ref a), (1, .ref b), (2, .int (nI (min t.length u.length)))]) hx hb dX2_commonSuffix_68 hl (k := 0) rfl (nI_add k 1) (by decide) rfl (fun ls hl => ?_)
        refine lv_goto (tgt := 28) hx hb dX2_commonSuffix_71 (by decide) ?_
        exact ih (k + 1) ls (by omega) (fun j hj => by
            by_cases hjk : j = k
            · subst hjk; exact hcd
            · exact hz j (by omega)) (lv_sub hl [0, 1, 2, 3] rfl)
  exact loop (min t.length u.length) 0 ls (by omega) (fun j hj => absurd hj (Nat.not_lt_zero j)) (lv_sub hl [0, 2, 3, 1] rfl)
set_option maxHeartbeats 4000000 in
/-- padStart -/
theorem m_X2_padS (l : Launch) (E : EvT) (sz : Nat) (a : Nat) (t : List Nat) (w c : Nat) (hw : w ≤ 64) (hc : c < 128) (N : Nat → Prop) (hN : ∀ q, N q → q < sz) : Met l yX2_padStart (ws_ yX2_padStart cX2_padStart 5 (some (.object "java/lang/String"))) ({ frames := 6, cells := 4, slots := 308, locals := 171 }) (PcE [.ref a, .int (nI w), .int (nI c)] E (Nw sz) sz (fun H => Str E N H a t)) (QR (fun r1 H1 => Str E N H1 r1 (padS t w c)) (Nw sz)) 4 308 (Nw sz) := by
  refine ofE RX2 rfl (by decide) (Nat.le_of_ble_eq_true rfl) ?_
  intro pp ee s mm bw me cd ls hF hr hlk hnm hsz hE hX hl
  subst hsz
  have hx := hF.1
  have hb := hF.2.1
  have hS : va_S (Nw s.heap.size) s.heap s.heap [] := va_S.rf
  have hl : lv_has ls 5 [(0, .ref a), (1, .int (nI w)), (2, .int (nI c))] := hl
  have hA : ∀ q, s.heap.size ≤ q → (Nw s.heap.size) q := fun _ h => h
  have hT := hX.1
  have h64 := hT.len
  have hXw := hX.nw
  have hT2 := padS_tx hT hw hc
  have hlen : (padS t w c).length = w - t.length + t.length := padS_len
  refine lv_aload_n hx hb dX2_padStart_0 rfl (lv_at hl 0 rfl) ?_
  refine tR (v := a) (uS 1 (rest := []) hF hE hS (fun _ z => absurd z id) (m_cnn l E s.heap.size a) (lw_S q292 q293 q3 q294) trivial hl.1 rfl dX2_padStart_1 ⟨by show _ ≤ 4; omega, by show _ ≤ 308; omega⟩) ?_
  refine lv_pop hx hb dX2_padStart_4 rfl ?_
  refine lv_aload_n hx hb dX2_padStart_5 rfl (lv_at hl 0 rfl) ?_
  refine tI (v := nI t.length) (uV 0 (rest := []) hF hE hS (fun _ z => absurd z id) (m_len l E s.heap.size a t) (lw_V q295 q38 q39 q4 q40) (hX.recv hE) hX.no hl.1 rfl dX2_padStart_6 ⟨by show _ ≤ 4; omega, by show _ ≤ 308; omega⟩) ?_
  refine lv_iload_n hx hb dX2_padStart_9 rfl (lv_at hl 1 rfl) ?_
  refine lv_icmp_lt (tgt := 15) hx hb dX2_padStart_10 (by decide) (fun c_1 => ?_) (fun c_1 => ?_)
  · skip
    have hwt : t.length < w := (nI_ltI (by omega) (by omega)).mp c_1
    have hP := p_nil (E := E) (H := s.heap)
    have hD := d_nil (A := Nw s.heap.size)
    refine va_new (D := E.1) (cl := vwCl) (ci := 1) (fs := [.null, .int 0, .int 0, .int 0]) (C := RJ8) (T := TJ8) (N := 4) hx hb hF.2.2.2.2 in_J8 tyJ8 tyJ8_ok hF.2.2.2.1 (hF.2.2.2.2 _ q296) (hF.2.2.2.2 _ q48) (hF.2.2.2.2 _ q14) hE.1 hP hD hS hA rfl (fun j hj => by rcases (show j = 0 ∨ j = 1 ∨ j = 2 ∨ j = 3 by omega) with rfl | rfl | rfl | rfl <;> rfl) (by show _ ≤ 4; omega) (by show _ ≤ 308; omega) dX2_padStart_15 (fun sb H_2 hP hD hS => ?_)
    have hP : va_P E.1 vwCl [(sb, .inr (1, [.null, .int 0, .int 0, .int 0]))] H_2 := hP
    have hD : va_D (Nw s.heap.size) [(sb, .inr (1, [.null, .int 0, .int 0, .int 0]))] := hD
    refine lv_dup hx hb dX2_padStart_18 rfl ?_
    refine lv_iload_n hx hb dX2_padStart_19 rfl (lv_at hl 1 rfl) ?_
    refine tQW (uI 1 (rest := [.ref sb]) hF hE hS (adA hD hS hA 0 rfl) (m_J8_in2 l E H_2.size sb w (by omega)) q14 q297 q298 q299 hP hl.1 rfl dX2_padStart_20 ⟨by show _ ≤ 4; omega, by show _ ≤ 308; omega⟩) hS (adA hD hS hA 0 rfl) (fun H_3 locs_3 hB hz_3 hk_3 hSn => ?_)
    obtain ⟨bv, hP1, hD1⟩ := hB
    obtain ⟨hP, hD⟩ := j_setN hP hD 0 rfl hk_3 (fun q z => hA q (Nat.le_trans hS.1 z)) hP1 hD1
    have hS := hSn
    have hP : va_P E.1 vwCl [(sb, .inr (1, [.ref bv, .int 0, .int 0, .int (nI 0)])), (bv, .inl (eB E, w, .inl (fun _ => 0)))] H_3 := hP
    have hD : va_D (Nw s.heap.size) [(sb, .inr (1, [.ref bv, .int 0, .int 0, .int (nI 0)])), (bv, .inl (eB E, w, .inl (fun _ => 0)))] := hD
    have hne : sb ≠ bv := d_ne hD 0 1 rfl rfl (by decide)
    refine lv_astore_n (lv' := [(3, .ref sb), (0, .ref a), (1, .int (nI w)), (2, .int (nI c))]) hx hb dX2_padStart_23 rfl hl (by decide) rfl (fun ls hl => ?_)
    refine lv_aload_n hx hb dX2_padStart_24 rfl (lv_at hl 1 rfl) ?_
    refine tI (v := nI t.length) (uV 0 (rest := []) hF hE hS (fun _ z => absurd z id) (m_len l E H_3.size a t) (lw_V q295 q38 q39 q4 q40) ((hXw.at hS (fun _ z => z)).recv hE) (hXw.at hS (fun _ z => z)).no hl.1 rfl dX2_padStart_25 ⟨by show _ ≤ 4; omega, by show _ ≤ 308; omega⟩) ?_
    refine lv_istore (lv' := [(4, .int (nI t.length)), (3, .ref sb), (0, .ref a), (1, .int (nI w)), (2, .int (nI c))]) hx hb dX2_padStart_28 hl (by decide) rfl (fun ls hl => ?_)
    have loop : ∀ (n k : Nat) (g : Nat → Int32) (H : Heap) (locs : List Loc) (ls : Array Slot), (k + n = w - t.length) → (va_P E.1 vwCl [(sb, .inr (1, [.ref bv, .int 0, .int 0, .int (nI k)])), (bv, .inl (eB E, w, .inl g))] H) → (va_D (Nw s.heap.size) [(sb, .inr (1, [.ref bv, .int 0, .int 0, .int (nI k)])), (bv, .inl (eB E, w, .inl g))]) → (va_S (Nw s.heap.size) s.heap H locs) → (∀ j, j < k → g j = nI c) → (sb_Fit g) → lv_has ls 5 [(4, .int (nI (t.length + k))), (3, .ref sb), (0, .ref a), (1, .int (nI w)), (2, .int (nI c))] → W pp l ee ({ frames := 6, cells := 4, slots := 308, locals := 171 } : Room) s mm ([.ref a, .int (nI w), .int (nI c)] : List Value).toArray bw me cd H locs (0 + 1 + 1) (0 + 4 + 100) (MQ bw (QR (fun r1 H1 => Str E N H1 r1 (padS t w c)) (Nw s.heap.size)) ([.ref a, .int (nI w), .int (nI c)] : List Value).toArray s 4 308 (Nw s.heap.size)) (F0 mm 30 ls []) := by
      intro n
      induction n with
      | zero =>
        intro k g H locs ls hk hP hD hS hg hgf hl
        refine lv_iload hx hb dX2_padStart_30 (lv_at hl 0 rfl) ?_
        refine lv_iload_n hx hb dX2_padStart_32 rfl (lv_at hl 3 rfl) ?_
        refine lv_icmp_ge (tgt := 48) hx hb dX2_padStart_33 (by decide) (fun c_4 => ?_) (fun c_4 => absurd ((nI_leI (by omega) (by omega)).mpr (by omega)) c_4)
        refine lv_aload_n hx hb dX2_padStart_48 rfl (lv_at hl 1 rfl) ?_
        refine lv_aload_n hx hb dX2_padStart_49 rfl (lv_at hl 2 rfl) ?_
        refine tQR (uV 1 (rest := []) hF hE hS (a2A hD hS hA 0 1 rfl rfl) (m_J8_app l E H.size sb bv k w g a t hne (by omega) (by omega) hgf) (lw_V q304 q74 q75 q14 q76) (va_recv hE.1 hP (ci := 1) (q0 := 0) rfl rfl) ⟨hP, hXw.at hS (a2A hD hS hA 0 1 rfl rfl)⟩ hl.1 rfl dX2_padStart_50 ⟨by show _ ≤ 4; omega, by show _ ≤ 308; omega⟩) hS (a2A hD hS hA 0 1 rfl rfl) (fun r2 H_5 locs_5 hB hz_5 hk_5 hSn => ?_)
        obtain ⟨hr2, g1, hg1, hga, hgb, hgf1⟩ := hB
        rw [hr2]
        obtain ⟨hP, hD⟩ := j_set2 hP hD 0 1 rfl rfl (by decide) hk_5 hg1
        have hS := hSn
        have hP : va_P E.1 vwCl [(sb, .inr (1, [.ref bv, .int 0, .int 0, .int (nI (k + t.length))])), (bv, .inl (eB E, w, .inl g1))] H_5 := hP
        have hD : va_D (Nw s.heap.size) [(sb, .inr (1, [.ref bv, .int 0, .int 0, .int (nI (k + t.length))])), (bv, .inl (eB E, w, .inl g1))] := hD
        refine lv_pop hx hb dX2_padStart_53 rfl ?_
        refine lv_aload_n hx hb dX2_padStart_54 rfl (lv_at hl 1 rfl) ?_
        have hkw : k = w - t.length := by omega
        subst hkw
        have hP : va_P E.1 vwCl [(sb, .inr (1, [.ref bv, .int 0, .int 0, .int (nI (w - t.length + t.length))])), (bv, .inl (eB E, w, .inl g1))] H_5 := hP
        have hD : va_D (Nw s.heap.size) [(sb, .inr (1, [.ref bv, .int 0, .int 0, .int (nI (w - t.length + t.length))])), (bv, .inl (eB E, w, .inl g1))] := hD
        have hQ : va_P E.1 vwCl (sbW E sb bv (padS t w c).length w g1) H_5 := by rw [hlen]; exact hP
        refine tQR (uV 0 (rest := []) hF hE hS (fun q z => hA q (Nat.le_trans hS.1 z)) (m_J8_toS l E H_5.size sb bv w g1 (padS t w c) hT2 (by omega) (by omega) (fun j hj => by
            by_cases z : j < w - t.length
            · rw [hga j z, hg j z]; unfold tb; rw [padS_lo z]
            · obtain ⟨i, rfl⟩ : ∃ i, j = w - t.length + i := ⟨j - (w - t.length), by omega⟩
              rw [hgb i (by omega)]; unfold tb; rw [padS_hi]) hgf1 N (fun q z => Nat.lt_of_lt_of_le (hN q z) hS.1)) (lw_V q305 q222 q223 q14 q224) (va_recv hE.1 hP (ci := 1) (q0 := 0) rfl rfl) hQ hl.1 rfl dX2_padStart_55 ⟨by show _ ≤ 4; omega, by show _ ≤ 308; omega⟩) hS (fun q z => hA q (Nat.le_trans hS.1 z)) (fun r1 H_6 locs_6 hB hz_6 hk_6 hSn => ?_)
        have hS := hSn
        exact z_QR hF hr hlk (Or.inl ⟨_, rfl⟩) hS hB (by omega) (by omega) dX2_padStart_58
      | succ n ih =>
        intro k g H locs ls hk hP hD hS hg hgf hl
        refine lv_iload hx hb dX2_padStart_30 (lv_at hl 0 rfl) ?_
        refine lv_iload_n hx hb dX2_padStart_32 rfl (lv_at hl 3 rfl) ?_
        refine lv_icmp_ge (tgt := 48) hx hb dX2_padStart_33 (by decide) (fun c_7 => absurd c_7 (fun z => absurd ((nI_leI (by omega) (by omega)).mp z) (by omega))) (fun c_7 => ?_)
        refine lv_aload_n hx hb dX2_padStart_36 rfl (lv_at hl 1 rfl) ?_
        refine lv_iload_n hx hb dX2_padStart_37 rfl (lv_at hl 4 rfl) ?_
        refine tQR (uV 1 (rest := []) hF hE hS (a2A hD hS hA 0 1 rfl rfl) (m_J8_apc l E H.size sb bv k w g c hc hne (by omega) (by omega)) (lw_V q303 q200 q201 q14 q202) (va_recv hE.1 hP (ci := 1) (q0 := 0) rfl rfl) hP hl.1 rfl dX2_padStart_38 ⟨by show _ ≤ 4; omega, by show _ ≤ 308; omega⟩) hS (a2A hD hS hA 0 1 rfl rfl) (fun r2 H_8 locs_8 hB hz_8 hk_8 hSn => ?_)
        obtain ⟨hr2, hg1⟩ := hB
        rw [hr2]
        obtain ⟨hP, hD⟩ := j_set2 hP hD 0 1 rfl rfl (by decide) hk_8 hg1
        have hS := hSn
        have hP : va_P E.1 vwCl [(sb, .inr (1, [.ref bv, .int 0, .int 0, .int (nI (k + 1))])), (bv, .inl (eB E, w, .inl (upd g k (nI c))))] H_8 := hP
        have hD : va_D (Nw s.heap.size) [(sb, .inr (1, [.ref bv, .int 0, .int 0, .int (nI (k + 1))])), (bv, .inl (eB E, w, .inl (upd g k (nI c))))] := hD
        refine lv_pop hx hb dX2_padStart_41 rfl ?_
        refine lv_iinc (v := nI (t.length + k + 1)) (lv' := [(4, .int (nI (t.length + k + 1))), (3, .ref sb), (0, .ref a), (1, .int (nI w)), (2, .int (nI c))]) hx hb dX2_padStart_42 hl (k := 0) rfl (nI_add (t.length + k) 1) (by decide) rfl (fun ls hl => ?_)
        refine lv_goto (tgt := 30) hx hb dX2_padStart_45 (by decide) ?_
        exact ih (k + 1) _ _ _ ls (by omega) hP hD hS (upd_lt (P := fun _ v => v = nI c) hg rfl) (sb_fitU hgf (c_fb _ hc)) (lv_sub hl [0, 1, 2, 3, 4] rfl)
    exact loop (w - t.length) 0 (fun _ => 0) _ _ ls (by omega) hP hD hS (fun j hj => absurd hj (Nat.not_lt_zero j)) sb_fit0 (lv_sub hl [0, 1, 2, 3, 4] rfl)
  · skip
    have hwt : w ≤ t.length := Nat.not_lt.mp (fun z => c_1 ((nI_ltI (by omega) (by omega)).mpr z))
    refine lv_aload_n hx hb dX2_padStart_13 rfl (lv_at hl 0 rfl) ?_
    exact z_QR hF hr hlk (Or.inl ⟨_, rfl⟩) hS (by rw [padS_0 hwt]; exact hX) (by omega) (by omega) dX2_padStart_14
set_option maxHeartbeats 4000000 in
/-- padEnd -/
theorem m_X2_padE (l : Launch) (E : EvT) (sz : Nat) (a : Nat) (t : List Nat) (w c : Nat) (hw : w ≤ 64) (hc : c < 128) (N : Nat → Prop) (hN : ∀ q, N q → q < sz) : Met l yX2_padEnd (ws_ yX2_padEnd cX2_padEnd 5 (some (.object "java/lang/String"))) ({ frames := 6, cells := 4, slots := 308, locals := 171 }) (PcE [.ref a, .int (nI w), .int (nI c)] E (Nw sz) sz (fun H => Str E N H a t)) (QR (fun r1 H1 => Str E N H1 r1 (padE t w c)) (Nw sz)) 4 308 (Nw sz) := by
  refine ofE RX2 rfl (by decide) (Nat.le_of_ble_eq_true rfl) ?_
  intro pp ee s mm bw me cd ls hF hr hlk hnm hsz hE hX hl
  subst hsz
  have hx := hF.1
  have hb := hF.2.1
  have hS : va_S (Nw s.heap.size) s.heap s.heap [] := va_S.rf
  have hl : lv_has ls 5 [(0, .ref a), (1, .int (nI w)), (2, .int (nI c))] := hl
  have hA : ∀ q, s.heap.size ≤ q → (Nw s.heap.size) q := fun _ h => h
  have hT := hX.1
  have h64 := hT.len
  have hXw := hX.nw
  have hT2 := padE_tx hT hw hc
  have hlen : (padE t w c).length = t.length + (w - t.length) := padE_len
  refine lv_aload_n hx hb dX2_padEnd_0 rfl (lv_at hl 0 rfl) ?_
  refine tR (v := a) (uS 1 (rest := []) hF hE hS (fun _ z => absurd z id) (m_cnn l E s.heap.size a) (lw_S q292 q293 q3 q294) trivial hl.1 rfl dX2_padEnd_1 ⟨by show _ ≤ 4; omega, by show _ ≤ 308; omega⟩) ?_
  refine lv_pop hx hb dX2_padEnd_4 rfl ?_
  refine lv_aload_n hx hb dX2_padEnd_5 rfl (lv_at hl 0 rfl) ?_
  refine tI (v := nI t.length) (uV 0 (rest := []) hF hE hS (fun _ z => absurd z id) (m_len l E s.heap.size a t) (lw_V q295 q38 q39 q4 q40) (hX.recv hE) hX.no hl.1 rfl dX2_padEnd_6 ⟨by show _ ≤ 4; omega, by show _ ≤ 308; omega⟩) ?_
  refine lv_iload_n hx hb dX2_padEnd_9 rfl (lv_at hl 1 rfl) ?_
  refine lv_icmp_lt (tgt := 15) hx hb dX2_padEnd_10 (by decide) (fun c_1 => ?_) (fun c_1 => ?_)
  · skip
    have hwt : t.length < w := (nI_ltI (by omega) (by omega)).mp c_1
    have hP := p_nil (E := E) (H := s.heap)
    have hD := d_nil (A := Nw s.heap.size)
    refine va_new (D := E.1) (cl := vwCl) (ci := 1) (fs := [.null, .int 0, .int 0, .int 0]) (C := RJ8) (T := TJ8) (N := 4) hx hb hF.2.2.2.2 in_J8 tyJ8 tyJ8_ok hF.2.2.2.1 (hF.2.2.2.2 _ q296) (hF.2.2.2.2 _ q48) (hF.2.2.2.2 _ q14) hE.1 hP hD hS hA rfl (fun j hj => by rcases (show j = 0 ∨ j = 1 ∨ j = 2 ∨ j = 3 by omega) with rfl | rfl | rfl | rfl <;> rfl) (by show _ ≤ 4; omega) (by show _ ≤ 308; omega) dX2_padEnd_15 (fun sb H_2 hP hD hS => ?_)
    have hP : va_P E.1 vwCl [(sb, .inr (1, [.null, .int 0, .int 0, .int 0]))] H_2 := hP
    have hD : va_D (Nw s.heap.size) [(sb, .inr (1, [.null, .int 0, .int 0, .int 0]))] := hD
    refine lv_dup hx hb dX2_padEnd_18 rfl ?_
    refine lv_iload_n hx hb dX2_padEnd_19 rfl (lv_at hl 1 rfl) ?_
    refine tQW (uI 1 (rest := [.ref sb]) hF hE hS (adA hD hS hA 0 rfl) (m_J8_in2 l E H_2.size sb w (by omega)) q14 q297 q298 q299 hP hl.1 rfl dX2_padEnd_20 ⟨by show _ ≤ 4; omega, by show _ ≤ 308; omega⟩) hS (adA hD hS hA 0 rfl) (fun H_3 locs_3 hB hz_3 hk_3 hSn => ?_)
    obtain ⟨bv, hP1, hD1⟩ := hB
    obtain ⟨hP, hD⟩ := j_setN hP hD 0 rfl hk_3 (fun q z => hA q (Nat.le_trans hS.1 z)) hP1 hD1
    have hS := hSn
    have hP : va_P E.1 vwCl [(sb, .inr (1, [.ref bv, .int 0, .int 0, .int (nI 0)])), (bv, .inl (eB E, w, .inl (fun _ => 0)))] H_3 := hP
    have hD : va_D (Nw s.heap.size) [(sb, .inr (1, [.ref bv, .int 0, .int 0, .int (nI 0)])), (bv, .inl (eB E, w, .inl (fun _ => 0)))] := hD
    have hne : sb ≠ bv := d_ne hD 0 1 rfl rfl (by decide)
    refine lv_astore_n (lv' := [(3, .ref sb), (0, .ref a), (1, .int (nI w)), (2, .int (nI c))]) hx hb dX2_padEnd_23 rfl hl (by decide) rfl (fun ls hl => ?_)
    refine lv_aload_n hx hb dX2_padEnd_24 rfl (lv_at hl 0 rfl) ?_
    refine lv_aload_n hx hb dX2_padEnd_25 rfl (lv_at hl 1 rfl) ?_
    refine tQR (uV 1 (rest := []) hF hE hS (a2A hD hS hA 0 1 rfl rfl) (m_J8_app l E H_3.size sb bv 0 w (fun _ => 0) a t hne (by omega) (by omega) sb_fit0) (lw_V q304 q74 q75 q14 q76) (va_recv hE.1 hP (ci := 1) (q0 := 0) rfl rfl) ⟨hP, hXw.at hS (a2A hD hS hA 0 1 rfl rfl)⟩ hl.1 rfl dX2_padEnd_26 ⟨by show _ ≤ 4; omega, by show _ ≤ 308; omega⟩) hS (a2A hD hS hA 0 1 rfl rfl) (fun r2 H_4 locs_4 hB hz_4 hk_4 hSn => ?_)
    obtain ⟨hr2, g1, hg1, hga, hgb, hgf1⟩ := hB
    rw [hr2]
    obtain ⟨hP, hD⟩ := j_set2 hP hD 0 1 rfl rfl (by decide) hk_4 hg1
    have hS := hSn
    have hP : va_P E.1 vwCl [(sb, .inr (1, [.ref bv, .int 0, .int 0, .int (nI (0 + t.length))])), (bv, .inl (eB E, w, .inl g1))] H_4 := hP
    have hD : va_D (Nw s.heap.size) [(sb, .inr (1, [.ref bv, .int 0, .int 0, .int (nI (0 + t.length))])), (bv, .inl (eB E, w, .inl g1))] := hD
    refine lv_pop hx hb dX2_padEnd_29 rfl ?_
    refine lv_aload_n hx hb dX2_padEnd_30 rfl (lv_at hl 1 rfl) ?_
    refine tI (v := nI t.length) (uV 0 (rest := []) hF hE hS (fun _ z => absurd z id) (m_len l E H_4.size a t) (lw_V q295 q38 q39 q4 q40) ((hXw.at hS (fun _ z => z)).recv hE) (hXw.at hS (fun _ z => z)).no hl.1 rfl dX2_padEnd_31 ⟨by show _ ≤ 4; omega, by show _ ≤ 308; omega⟩) ?_
    refine lv_istore (lv' := [(4, .int (nI t.length)), (3, .ref sb), (0, .ref a), (1, .int (nI w)), (2, .int (nI c))]) hx hb dX2_padEnd_34 hl (by decide) rfl (fun ls hl => ?_)
    simp only [Nat.zero_add] at hP hD hgb
    have loop : ∀ (n k : Nat) (g : Nat → Int32) (H : Heap) (locs : List Loc) (ls : Array Slot), (k + n = w - t.length) → (va_P E.1 vwCl [(sb, .inr (1, [.ref bv, .int 0, .int 0, .int (nI (t.length + k))])), (bv, .inl (eB E, w, .inl g))] H) → (va_D (Nw s.heap.size) [(sb, .inr (1, [.ref bv, .int 0, .int 0, .int (nI (t.length + k))])), (bv, .inl (eB E, w, .inl g))]) → (va_S (Nw s.heap.size) s.heap H locs) → (∀ j, j < t.length → g j = tb t j) → (∀ j, j < k → g (t.length + j) = nI c) → (sb_Fit g) → lv_has ls 5 [(4, .int (nI (t.length + k))), (3, .ref sb), (0, .ref a), (1, .int (nI w)), (2, .int (nI c))] → W pp l ee ({ frames := 6, cells := 4, slots := 308, locals := 171 } : Room) s mm ([.ref a, .int (nI w), .int (nI c)] : List Value).toArray bw me cd H locs (0 + 1 + 1) (0 + 4 + 100) (MQ bw (QR (fun r1 H1 => Str E N H1 r1 (padE t w c)) (Nw s.heap.size)) ([.ref a, .int (nI w), .int (nI c)] : List Value).toArray s 4 308 (Nw s.heap.size)) (F0 mm 36 ls []) := by
      intro n
      induction n with
      | zero =>
        intro k g H locs ls hk hP hD hS hg0 hg hgf hl
        refine lv_iload hx hb dX2_padEnd_36 (lv_at hl 0 rfl) ?_
        refine lv_iload_n hx hb dX2_padEnd_38 rfl (lv_at hl 3 rfl) ?_
        refine lv_icmp_ge (tgt := 54) hx hb dX2_padEnd_39 (by decide) (fun c_5 => ?_) (fun c_5 => absurd ((nI_leI (by omega) (by omega)).mpr (by omega)) c_5)
        refine lv_aload_n hx hb dX2_padEnd_54 rfl (lv_at hl 1 rfl) ?_
        have hkw : k = w - t.length := by omega
        subst hkw
        have hP : va_P E.1 vwCl [(sb, .inr (1, [.ref bv, .int 0, .int 0, .int (nI (t.length + (w - t.length)))])), (bv, .inl (eB E, w, .inl g))] H := hP
        have hD : va_D (Nw s.heap.size) [(sb, .inr (1, [.ref bv, .int 0, .int 0, .int (nI (t.length + (w - t.length)))])), (bv, .inl (eB E, w, .inl g))] := hD
        have hQ : va_P E.1 vwCl (sbW E sb bv (padE t w c).length w g) H := by rw [hlen]; exact hP
        refine tQR (uV 0 (rest := []) hF hE hS (fun q z => hA q (Nat.le_trans hS.1 z)) (m_J8_toS l E H.size sb bv w g (padE t w c) hT2 (by omega) (by omega) (fun j hj => by
            by_cases z : j < t.length
            · rw [hg0 j z]; unfold tb; rw [padE_lo z]
            · obtain ⟨i, rfl⟩ : ∃ i, j = t.length + i := ⟨j - t.length, by omega⟩
              rw [hg i (by omega)]; unfold tb; rw [padE_hi (by omega)]) hgf N (fun q z => Nat.lt_of_lt_of_le (hN q z) hS.1)) (lw_V q305 q222 q223 q14 q224) (va_recv hE.1 hP (ci := 1) (q0 := 0) rfl rfl) hQ hl.1 rfl dX2_padEnd_55 ⟨by show _ ≤ 4; omega, by show _ ≤ 308; omega⟩) hS (fun q z => hA q (Nat.le_trans hS.1 z)) (fun r1 H_6 locs_6 hB hz_6 hk_6 hSn => ?_)
        have hS := hSn
        exact z_QR hF hr hlk (Or.inl ⟨_, rfl⟩) hS hB (by omega) (by omega) dX2_padEnd_58
      | succ n ih =>
        intro k g H locs ls hk hP hD hS hg0 hg hgf hl
        refine lv_iload hx hb dX2_padEnd_36 (lv_at hl 0 rfl) ?_
        refine lv_iload_n hx hb dX2_padEnd_38 rfl (lv_at hl 3 rfl) ?_
        refine lv_icmp_ge (tgt := 54) hx hb dX2_padEnd_39 (by decide) (fun c_7 => absurd c_7 (fun z => absurd ((nI_leI (by omega) (by omega)).mp z) (by omega))) (fun c_7 => ?_)
        refine lv_aload_n hx hb dX2_padEnd_42 rfl (lv_at hl 1 rfl) ?_
        refine lv_iload_n hx hb dX2_padEnd_43 rfl (lv_at hl 4 rfl) ?_
        refine tQR (uV 1 (rest := []) hF hE hS (a2A hD hS hA 0 1 rfl rfl) (m_J8_apc l E H.size sb bv (t.length + k) w g c hc hne (by omega) (by omega)) (lw_V q303 q200 q201 q14 q202) (va_recv hE.1 hP (ci := 1) (q0 := 0) rfl rfl) hP hl.1 rfl dX2_padEnd_44 ⟨by show _ ≤ 4; omega, by show _ ≤ 308; omega⟩) hS (a2A hD hS hA 0 1 rfl rfl) (fun r2 H_8 locs_8 hB hz_8 hk_8 hSn => ?_)
        obtain ⟨hr2, hg1⟩ := hB
        rw [hr2]
        obtain ⟨hP, hD⟩ := j_set2 hP hD 0 1 rfl rfl (by decide) hk_8 hg1
        have hS := hSn
        have hP : va_P E.1 vwCl [(sb, .inr (1, [.ref bv, .int 0, .int 0, .int (nI (t.length + k + 1))])), (bv, .inl (eB E, w, .inl (upd g (t.length + k) (nI c))))] H_8 := hP
        have hD : va_D (Nw s.heap.size) [(sb, .inr (1, [.ref bv, .int 0, .int 0, .int (nI (t.length + k + 1))])), (bv, .inl (eB E, w, .inl (upd g (t.length + k) (nI c))))] := hD
        refine lv_pop hx hb dX2_padEnd_47 rfl ?_
        refine lv_iinc (v := nI (t.length + k + 1)) (lv' := [(4, .int (nI (t.length + k + 1))), (3, .ref sb), (0, .ref a), (1, .int (nI w)), (2, .int (nI c))]) hx hb dX2_padEnd_48 hl (k := 0) rfl (nI_add (t.length + k) 1) (by decide) rfl (fun ls hl => ?_)
        refine lv_goto (tgt := 36) hx hb dX2_padEnd_51 (by decide) ?_
        exact ih (k + 1) _ _ _ ls (by omega) hP hD hS (fun j hj => by rw [pk_un (by omega)]; exact hg0 j hj) (fun j hj => by
            by_cases hjk : j = k
            · subst hjk; exact pk_us
            · rw [pk_un (by omega)]; exact hg j (by omega)) (sb_fitU hgf (c_fb _ hc)) (lv_sub hl [0, 1, 2, 3, 4] rfl)
    exact loop (w - t.length) 0 g1 _ _ ls (by omega) hP hD hS hgb (fun j hj => absurd hj (Nat.not_lt_zero j)) hgf1 (lv_sub hl [0, 1, 2, 3, 4] rfl)
  · skip
    have hwt : w ≤ t.length := Nat.not_lt.mp (fun z => c_1 ((nI_ltI (by omega) (by omega)).mpr z))
    refine lv_aload_n hx hb dX2_padEnd_13 rfl (lv_at hl 0 rfl) ?_
    exact z_QR hF hr hlk (Or.inl ⟨_, rfl⟩) hS (by rw [padE_0 hwt]; exact hX) (by omega) (by omega) dX2_padEnd_14
end
section
/-! TextDesk -/
set_option maxRecDepth 100000
abbrev Eqd (d : Nat) : Nat → Prop := fun q => q = d
/-- a TextDesk at d with the texts t and u -/
def Dsk (E : EvT) (H : Heap) (d : Nat) (t u : List Nat) : Prop := ∃ fa fb : Nat, va_P E.1 vwCl [(d, .inr (2, [.ref fa, .ref fb]))] H ∧ Str E (Eqd d) H fa t ∧ Str E (Eqd d) H fb u
def od (x : Int32) : Nat := x.toBitVec.toNat % 2 ^ 1
theorem od_lt (x : Int32) : od x < 2 := Nat.mod_lt _ (by decide)
theorem od_and (x : Int32) : x &&& nI 1 = nI (od x) := pk_and x 1 (by decide)
def y6 (x : Int32) : Nat := x.toBitVec.toNat % 2 ^ 6
theorem y6_lt (x : Int32) : y6 x < 64 := Nat.mod_lt _ (by decide)
theorem y6_and (x : Int32) : x &&& nI 63 = nI (y6 x) := pk_and x 6 (by decide)
def atv (t : List Nat) (i : Int32) : Int32 := if t.length = 0 then -1 else nI (t.getD (br i % t.length) 0)
def two (t : List Nat) (y z : Int32) : List Nat := if t.length ≤ 60 then t ++ [sg y, sg z] else t
theorem two_tx {t : List Nat} {y z : Int32} (h : Tx t) (hl : t.length ≤ 60) : Tx (t ++ [sg y, sg z]) :=
  ⟨by rw [List.length_append]; show t.length + 2 ≤ 64; omega, fun c hc => by
    rcases List.mem_append.mp hc with g | g
    · exact h.2 c g
    · rcases List.mem_cons.mp g with g | g
      · rw [g]; exact sg_lt y
      · rw [List.mem_singleton.mp g]; exact sg_lt z⟩
theorem two_getD {t : List Nat} {a b : Nat} {g : Nat → Int32} (hg : ∀ j, j < t.length → g j = tb t j) : ∀ j, j < (t ++ [a, b]).length → upd (upd g t.length (nI a)) (t.length + 1) (nI b) j = tb (t ++ [a, b]) j := by
  intro j hj
  have hl : (t ++ [a, b]).length = t.length + 2 := by rw [List.length_append]; rfl
  unfold tb
  by_cases h1 : j = t.length + 1
  · subst h1
    rw [pk_us, getD_app_hi]
    rfl
  · rw [pk_un h1]
    by_cases h2 : j = t.length
    · subst h2
      rw [pk_us, show t.length = t.length + 0 from rfl, getD_app_hi]
      rfl
    · rw [pk_un h2, getD_app_lo (by omega)]
      exact hg j (by omega)
theorem c_bool {n : Nat} (h : n ≤ 1) : narrow .boolean (.int (nI n)) = .int (nI n) := by
  rcases (show n = 0 ∨ n = 1 by omega) with rfl | rfl <;> rfl
theorem Dsk.lt {E : EvT} {H : Heap} {d : Nat} {t u : List Nat} (h : Dsk E H d t u) : d < H.size := by
  obtain ⟨fa, fb, hP, -, -⟩ := h
  exact p_lt hP 0 rfl
theorem Dsk.recv {E : EvT} {A : Nat → Prop} {s : State} {H0 H : Heap} {d : Nat} {t u : List Nat} (hE : Ev E A s H0) (h : Dsk E H d t u) : ∃ cellB : Cell, H[d]? = some cellB ∧ cellB.vm.isStatics = false ∧ s.vm.findClass RX1 = some cellB.cls := by
  obtain ⟨fa, fb, hP, -, -⟩ := h
  exact va_recv hE.1 hP (ci := 2) (q0 := 0) rfl rfl
theorem Dsk.keep {E : EvT} {H H1 : Heap} {d : Nat} {t u : List Nat} (h : Dsk E H d t u) (hk : ∀ q : Nat, q < H.size → ¬ Nw H.size q → H1[q]? = H[q]?) : Dsk E H1 d t u := by
  obtain ⟨fa, fb, hP, h1, h2⟩ := h
  exact ⟨fa, fb, p_stN hP hk, h1.keep hk, h2.keep hk⟩
section DW
variable {p : Program} {l : Launch} {e : Env} {R : Room} {s : State} {m : MethodId} {args : Array Value} {below : List Frame} {meth : Method} {c : Code} {H : Heap} {locs : List Loc} {cells slots : Nat} {Q : State → Prop}
variable {cc : ByteArray} {pc nL : Nat} {ls : Array Slot} {rest : List Value} {E : EvT} {A : Nat → Prop} {own : String}
/-- a text of the desk is written, where all that was written till then is new -/
theorem r_putd (hF : CallFix p m c cc nL s args lw_all own) {A : Nat → Prop} (hE : Ev E A s s.heap) {d r : Nat} {x0 x1 : Value} (hS : va_S (Nw s.heap.size) s.heap H locs) (hP : va_P E.1 vwCl [(d, .inr (2, [x0, x1]))] H) (k : Nat) (hk : k < 2) {idx : Nat} (hq : Cond.fieldLink own idx "TextDesk" (TX1 k).2.1 (TX1 k).2.2.1 ∈ lw_all) (hd2 : (TX1 k).1 = "TextDesk") (hfin : (TX1 k).2.2.2 = false) (hty : parseFieldDescriptor (TX1 k).2.2.1 = some (.object "java/lang/String")) (hdg : decode cc pc = .ok (.putfield idx, 3))
    (kk : ∀ (H1 : Heap) (locs1 : List Loc), va_P E.1 vwCl [(d, .inr (2, [x0, x1].set k (.ref r)))] H1 → va_S (Ad d s.heap.size) s.heap H1 locs1 → (∀ q : Nat, q < H.size → ¬ Eqd d q → H1[q]? = H[q]?) → W p l e R s m args below meth c H1 locs1 cells slots Q (F0 m (pc + 3) ls rest)) : W p l e R s m args below meth c H locs cells slots Q (F0 m pc ls (.ref r :: .ref d :: rest)) := by
  refine va_forget (fun q hq => hS.2.2 q hq) ?_
  have hD : va_D (Eqd d) [((d, .inr (2, [x0, x1])) : Nat × va_E)] := d_one rfl
  refine va_put (D := E.1) (cl := vwCl) (A := Eqd d) (H0 := H) (ref := "TextDesk") (ci := 2) (v := .ref r) (ty := .object "java/lang/String") (C := RX1) (T := TX1) (N := 2) hF.1 hF.2.1 hF.2.2.2.2 in_X1 tyX1 tyX1_ok nmX1 hF.2.2.2.1 hE.1 hP hD va_S.rf 0 rfl rfl k hk (hF.2.2.2.2 _ hq) (fun x h9 => by rw [hd2] at h9; exact h9) hfin hty rfl rfl hk hdg (fun H1 locs1 hP1 hD1 hS1 => ?_)
  refine kk H1 locs1 hP1 ⟨Nat.le_trans hS.1 hS1.1, fun q h1 h2 => ?_, fun q h => Or.inl (hS1.2.2 q h)⟩ hS1.2.1
  rw [hS1.2.1 q (Nat.lt_of_lt_of_le h1 hS.1) (fun z => h2 (Or.inl z))]
  exact hS.2.1 q h1 (fun z => h2 (Or.inr z))
end DW

set_option maxHeartbeats 4000000 in
/-- alike -/
theorem m_X1_alike (l : Launch) (E : EvT) (sz : Nat) (d : Nat) (t u : List Nat) : Met l yX1_alike (ws_ yX1_alike cX1_alike 1 (some .boolean)) ({ frames := 5, cells := 0, slots := 0, locals := 111 }) (PcE [.ref d] E (No) sz (fun H => Dsk E H d t u)) (QI (nI (alk t u))) 0 0 (No) := by
  refine ofE RX1 rfl (by decide) (Nat.le_of_ble_eq_true rfl) ?_
  intro pp ee s mm bw me cd ls hF hr hlk hnm hsz hE hX hl
  subst hsz
  have hx := hF.1
  have hb := hF.2.1
  have hS : va_S (No) s.heap s.heap [] := va_S.rf
  have hl : lv_has ls 1 [(0, .ref d)] := hl
  have hX0 := hX
  obtain ⟨fa, fb, hP, hfa, hfb⟩ := hX
  refine lv_aload_n hx hb dX1_alike_0 rfl (lv_at hl 0 rfl) ?_
  refine va_get (D := E.1) (cl := vwCl) (ci := 2) (v := .ref fa) (C := RX1) (T := TX1) (N := 2) hx hb hF.2.2.2.2 in_X1 hF.2.2.2.1 hE.1 hP 0 rfl rfl 0 (by decide) (hF.2.2.2.2 _ q25) (fun _ h9 => h9) rfl dX1_alike_1 ?_
  refine lv_aload_n hx hb dX1_alike_4 rfl (lv_at hl 0 rfl) ?_
  refine va_get (D := E.1) (cl := vwCl) (ci := 2) (v := .ref fb) (C := RX1) (T := TX1) (N := 2) hx hb hF.2.2.2.2 in_X1 hF.2.2.2.1 hE.1 hP 0 rfl rfl 1 (by decide) (hF.2.2.2.2 _ q26) (fun _ h9 => h9) rfl dX1_alike_5 ?_
  refine tI (v := nI (alk t u)) (uS 2 (rest := []) hF hE hS (fun _ z => absurd z id) (m_X4_eq l E s.heap.size fa fb t u) (lw_S q392 q393 q12 q394) ⟨hfa.no, hfb.no⟩ hl.1 rfl dX1_alike_8 ⟨Nat.le_refl _, Nat.le_refl _⟩) ?_
  have h2 : alk t u ≤ 1 := by unfold alk; split <;> omega
  exact z_I hF hr hlk (c_bool h2) rfl dX1_alike_11
set_option maxHeartbeats 4000000 in
/-- length -/
theorem m_X1_len (l : Launch) (E : EvT) (sz : Nat) (d : Nat) (t u : List Nat) (x : Int32) : Met l yX1_length (ws_ yX1_length cX1_length 2 (some .int)) ({ frames := 2, cells := 0, slots := 0, locals := 40 }) (PcE [.ref d, .int (x)] E (No) sz (fun H => Dsk E H d t u)) (QI (nI (if od x = 0 then t.length else u.length))) 0 0 (No) := by
  refine ofE RX1 rfl (by decide) (Nat.le_of_ble_eq_true rfl) ?_
  intro pp ee s mm bw me cd ls hF hr hlk hnm hsz hE hX hl
  subst hsz
  have hx := hF.1
  have hb := hF.2.1
  have hS : va_S (No) s.heap s.heap [] := va_S.rf
  have hl : lv_has ls 2 [(0, .ref d), (1, .int (x))] := hl
  have hX0 := hX
  obtain ⟨fa, fb, hP, hfa, hfb⟩ := hX
  have hod := od_lt x
  refine lv_iload_n hx hb dX1_length_0 rfl (lv_at hl 1 rfl) ?_
  refine lv_iconst (v := nI 1) hx hb dX1_length_1 (by decide) ?_
  refine lv_iand hx hb dX1_length_2 ?_
  refine w_to (nI (od x)) (od_and x) ?_
  refine lv_if_ne (tgt := 16) hx hb dX1_length_3 (by decide) (fun c_1 => ?_) (fun c_1 => ?_)
  · skip
    have ho : ¬ od x = 0 := fun z => c_1 (by rw [z]; exact nI_0)
    refine lv_aload_n hx hb dX1_length_16 rfl (lv_at hl 0 rfl) ?_
    refine va_get (D := E.1) (cl := vwCl) (ci := 2) (v := .ref fb) (C := RX1) (T := TX1) (N := 2) hx hb hF.2.2.2.2 in_X1 hF.2.2.2.1 hE.1 hP 0 rfl rfl 1 (by decide) (hF.2.2.2.2 _ q26) (fun _ h9 => h9) rfl dX1_length_17 ?_
    refine tI (v := nI u.length) (uV 0 (rest := []) hF hE hS (fun _ z => absurd z id) (m_len l E s.heap.size fb u) (lw_V q37 q38 q39 q4 q40) (hfb.recv hE) hfb.no hl.1 rfl dX1_length_20 ⟨Nat.le_refl _, Nat.le_refl _⟩) ?_
    exact z_I hF hr hlk (rfl) (by rw [if_neg ho]) dX1_length_23
  · skip
    have ho : od x = 0 := (nI_z (by omega)).mp c_1
    refine lv_aload_n hx hb dX1_length_6 rfl (lv_at hl 0 rfl) ?_
    refine va_get (D := E.1) (cl := vwCl) (ci := 2) (v := .ref fa) (C := RX1) (T := TX1) (N := 2) hx hb hF.2.2.2.2 in_X1 hF.2.2.2.1 hE.1 hP 0 rfl rfl 0 (by decide) (hF.2.2.2.2 _ q25) (fun _ h9 => h9) rfl dX1_length_7 ?_
    refine tI (v := nI t.length) (uV 0 (rest := []) hF hE hS (fun _ z => absurd z id) (m_len l E s.heap.size fa t) (lw_V q37 q38 q39 q4 q40) (hfa.recv hE) hfa.no hl.1 rfl dX1_length_10 ⟨Nat.le_refl _, Nat.le_refl _⟩) ?_
    refine lv_goto (tgt := 23) hx hb dX1_length_13 (by decide) ?_
    exact z_I hF hr hlk (rfl) (by rw [if_pos ho]) dX1_length_23
set_option maxHeartbeats 4000000 in
/-- at -/
theorem m_X1_at (l : Launch) (E : EvT) (sz : Nat) (d : Nat) (t u : List Nat) (x i : Int32) : Met l yX1_at (ws_ yX1_at cX1_at 4 (some .int)) ({ frames := 4, cells := 0, slots := 0, locals := 85 }) (PcE [.ref d, .int (x), .int (i)] E (No) sz (fun H => Dsk E H d t u)) (QI (atv (if od x = 0 then t else u) i)) 0 0 (No) := by
  refine ofE RX1 rfl (by decide) (Nat.le_of_ble_eq_true rfl) ?_
  intro pp ee s mm bw me cd ls hF hr hlk hnm hsz hE hX hl
  subst hsz
  have hx := hF.1
  have hb := hF.2.1
  have hS : va_S (No) s.heap s.heap [] := va_S.rf
  have hl : lv_has ls 4 [(0, .ref d), (1, .int (x)), (2, .int (i))] := hl
  have hX0 := hX
  obtain ⟨fa, fb, hP, hfa, hfb⟩ := hX
  have hod := od_lt x
  refine lv_iload_n hx hb dX1_at_0 rfl (lv_at hl 1 rfl) ?_
  refine lv_iconst (v := nI 1) hx hb dX1_at_1 (by decide) ?_
  refine lv_iand hx hb dX1_at_2 ?_
  refine w_to (nI (od x)) (od_and x) ?_
  refine lv_if_ne (tgt := 13) hx hb dX1_at_3 (by decide) (fun c_1 => ?_) (fun c_1 => ?_)
  · skip
    have ho : ¬ od x = 0 := fun z => c_1 (by rw [z]; exact nI_0)
    refine lv_aload_n hx hb dX1_at_13 rfl (lv_at hl 0 rfl) ?_
    refine va_get (D := E.1) (cl := vwCl) (ci := 2) (v := .ref fb) (C := RX1) (T := TX1) (N := 2) hx hb hF.2.2.2.2 in_X1 hF.2.2.2.1 hE.1 hP 0 rfl rfl 1 (by decide) (hF.2.2.2.2 _ q26) (fun _ h9 => h9) rfl dX1_at_14 ?_
    have hT := hfb.1
    have h64 := hT.len
    refine lv_astore_n (lv' := [(3, .ref fb), (0, .ref d), (1, .int (x)), (2, .int (i))]) hx hb dX1_at_17 rfl hl (by decide) rfl (fun ls hl => ?_)
    refine lv_aload_n hx hb dX1_at_18 rfl (lv_at hl 0 rfl) ?_
    refine tI (v := nI u.length) (uV 0 (rest := []) hF hE hS (fun _ z => absurd z id) (m_len l E s.heap.size fb u) (lw_V q37 q38 q39 q4 q40) (hfb.recv hE) hfb.no hl.1 rfl dX1_at_19 ⟨Nat.le_refl _, Nat.le_refl _⟩) ?_
    refine lv_if_ne (tgt := 29) hx hb dX1_at_22 (by decide) (fun c_2 => ?_) (fun c_2 => ?_)
    · skip
      have h0 : ¬ u.length = 0 := fun z => c_2 (by rw [z]; exact nI_0)
      have hlt : br i % u.length < u.length := Nat.mod_lt _ (by omega)
      refine lv_aload_n hx hb dX1_at_29 rfl (lv_at hl 0 rfl) ?_
      refine lv_iload_n hx hb dX1_at_30 rfl (lv_at hl 3 rfl) ?_
      refine lv_ldc (v := 2147483647) hx hb hF.2.2.2.1 (hF.2.2.2.2 _ q198) dX1_at_31 ?_
      refine lv_iand hx hb dX1_at_33 ?_
      refine w_to (nI (br i)) (br_and i) ?_
      refine lv_aload_n hx hb dX1_at_34 rfl (lv_at hl 0 rfl) ?_
      refine tI (v := nI u.length) (uV 0 (rest := [.int (nI (br i)), .ref fb]) hF hE hS (fun _ z => absurd z id) (m_len l E s.heap.size fb u) (lw_V q37 q38 q39 q4 q40) (hfb.recv hE) hfb.no hl.1 rfl dX1_at_35 ⟨Nat.le_refl _, Nat.le_refl _⟩) ?_
      refine lv_irem hx hb dX1_at_38 (fun z => h0 ((nI_z (by omega)).mp z)) ?_
      refine w_to (nI (br i % u.length)) (pk_rem (br_lt i) (by omega) (by omega)) ?_
      refine tI (v := nI (u.getD (br i % u.length) 0)) (uV 1 (rest := []) hF hE hS (fun _ z => absurd z id) (m_charAt l E s.heap.size fb u (br i % u.length) hlt) (lw_V q561 q322 q323 q4 q324) (hfb.recv hE) hfb.no hl.1 rfl dX1_at_39 ⟨Nat.le_refl _, Nat.le_refl _⟩) ?_
      exact z_I hF hr hlk (rfl) (by rw [if_neg ho, atv, if_neg h0]) dX1_at_42
    · skip
      have h0 : u.length = 0 := (nI_z (by omega)).mp c_2
      refine lv_iconst (v := (-1)) hx hb dX1_at_25 (by decide) ?_
      refine lv_goto (tgt := 42) hx hb dX1_at_26 (by decide) ?_
      exact z_I hF hr hlk (rfl) (by rw [if_neg ho, atv, if_pos h0]) dX1_at_42
  · skip
    have ho : od x = 0 := (nI_z (by omega)).mp c_1
    refine lv_aload_n hx hb dX1_at_6 rfl (lv_at hl 0 rfl) ?_
    refine va_get (D := E.1) (cl := vwCl) (ci := 2) (v := .ref fa) (C := RX1) (T := TX1) (N := 2) hx hb hF.2.2.2.2 in_X1 hF.2.2.2.1 hE.1 hP 0 rfl rfl 0 (by decide) (hF.2.2.2.2 _ q25) (fun _ h9 => h9) rfl dX1_at_7 ?_
    have hT := hfa.1
    have h64 := hT.len
    refine lv_goto (tgt := 17) hx hb dX1_at_10 (by decide) ?_
    refine lv_astore_n (lv' := [(3, .ref fa), (0, .ref d), (1, .int (x)), (2, .int (i))]) hx hb dX1_at_17 rfl hl (by decide) rfl (fun ls hl => ?_)
    refine lv_aload_n hx hb dX1_at_18 rfl (lv_at hl 0 rfl) ?_
    refine tI (v := nI t.length) (uV 0 (rest := []) hF hE hS (fun _ z => absurd z id) (m_len l E s.heap.size fa t) (lw_V q37 q38 q39 q4 q40) (hfa.recv hE) hfa.no hl.1 rfl dX1_at_19 ⟨Nat.le_refl _, Nat.le_refl _⟩) ?_
    refine lv_if_ne (tgt := 29) hx hb dX1_at_22 (by decide) (fun c_3 => ?_) (fun c_3 => ?_)
    · skip
      have h0 : ¬ t.length = 0 := fun z => c_3 (by rw [z]; exact nI_0)
      have hlt : br i % t.length < t.length := Nat.mod_lt _ (by omega)
      refine lv_aload_n hx hb dX1_at_29 rfl (lv_at hl 0 rfl) ?_
      refine lv_iload_n hx hb dX1_at_30 rfl (lv_at hl 3 rfl) ?_
      refine lv_ldc (v := 2147483647) hx hb hF.2.2.2.1 (hF.2.2.2.2 _ q198) dX1_at_31 ?_
      refine lv_iand hx hb dX1_at_33 ?_
      refine w_to (nI (br i)) (br_and i) ?_
      refine lv_aload_n hx hb dX1_at_34 rfl (lv_at hl 0 rfl) ?_
      refine tI (v := nI t.length) (uV 0 (rest := [.int (nI (br i)), .ref fa]) hF hE hS (fun _ z => absurd z id) (m_len l E s.heap.size fa t) (lw_V q37 q38 q39 q4 q40) (hfa.recv hE) hfa.no hl.1 rfl dX1_at_35 ⟨Nat.le_refl _, Nat.le_refl _⟩) ?_
      refine lv_irem hx hb dX1_at_38 (fun z => h0 ((nI_z (by omega)).mp z)) ?_
      refine w_to (nI (br i % t.length)) (pk_rem (br_lt i) (by omega) (by omega)) ?_
      refine tI (v := nI (t.getD (br i % t.length) 0)) (uV 1 (rest := []) hF hE hS (fun _ z => absurd z id) (m_charAt l E s.heap.size fa t (br i % t.length) hlt) (lw_V q561 q322 q323 q4 q324) (hfa.recv hE) hfa.no hl.1 rfl dX1_at_39 ⟨Nat.le_refl _, Nat.le_refl _⟩) ?_
      exact z_I hF hr hlk (rfl) (by rw [if_pos ho, atv, if_neg h0]) dX1_at_42
    · skip
      have h0 : t.length = 0 := (nI_z (by omega)).mp c_3
      refine lv_iconst (v := (-1)) hx hb dX1_at_25 (by decide) ?_
      refine lv_goto (tgt := 42) hx hb dX1_at_26 (by decide) ?_
      exact z_I hF hr hlk (rfl) (by rw [if_pos ho, atv, if_pos h0]) dX1_at_42
set_option maxHeartbeats 4000000 in
/-- prefix -/
theorem m_X1_pfx (l : Launch) (E : EvT) (sz : Nat) (d : Nat) (t u : List Nat) : Met l yX1_prefix (ws_ yX1_prefix cX1_prefix 1 (some .int)) ({ frames := 7, cells := 2, slots := 204, locals := 197 }) (PcE [.ref d] E (Nw sz) sz (fun H => Dsk E H d t u)) (QJ (nI (pfx t u)) (fun _ => True) (Nw sz)) 2 204 (Nw sz) := by
  refine ofE RX1 rfl (by decide) (Nat.le_of_ble_eq_true rfl) ?_
  intro pp ee s mm bw me cd ls hF hr hlk hnm hsz hE hX hl
  subst hsz
  have hx := hF.1
  have hb := hF.2.1
  have hS : va_S (Nw s.heap.size) s.heap s.heap [] := va_S.rf
  have hl : lv_has ls 1 [(0, .ref d)] := hl
  have hA : ∀ q, s.heap.size ≤ q → (Nw s.heap.size) q := fun _ h => h
  have hX0 := hX
  obtain ⟨fa, fb, hP, hfa, hfb⟩ := hX
  refine lv_aload_n hx hb dX1_prefix_0 rfl (lv_at hl 0 rfl) ?_
  refine va_get (D := E.1) (cl := vwCl) (ci := 2) (v := .ref fa) (C := RX1) (T := TX1) (N := 2) hx hb hF.2.2.2.2 in_X1 hF.2.2.2.1 hE.1 hP 0 rfl rfl 0 (by decide) (hF.2.2.2.2 _ q25) (fun _ h9 => h9) rfl dX1_prefix_1 ?_
  refine lv_aload_n hx hb dX1_prefix_4 rfl (lv_at hl 0 rfl) ?_
  refine va_get (D := E.1) (cl := vwCl) (ci := 2) (v := .ref fb) (C := RX1) (T := TX1) (N := 2) hx hb hF.2.2.2.2 in_X1 hF.2.2.2.1 hE.1 hP 0 rfl rfl 1 (by decide) (hF.2.2.2.2 _ q26) (fun _ h9 => h9) rfl dX1_prefix_5 ?_
  refine tQR (uS 2 (rest := []) hF hE hS (fun q z => hA q (Nat.le_trans hS.1 z)) (m_X2_pfx l E s.heap.size fa fb t u) (lw_S q461 q462 q2 q463) ⟨hfa.no, hfb.no⟩ hl.1 rfl dX1_prefix_8 ⟨by show _ ≤ 2; omega, by show _ ≤ 204; omega⟩) hS (fun q z => hA q (Nat.le_trans hS.1 z)) (fun r1 H_1 locs_1 hB hz_1 hk_1 hSn => ?_)
  obtain ⟨w, hw, hwl⟩ := hB
  have hS := hSn
  refine tI (v := nI w.length) (uV 0 (rest := []) hF hE hS (fun _ z => absurd z id) (m_len l E H_1.size r1 w) (lw_V q37 q38 q39 q4 q40) (hw.recv hE) hw hl.1 rfl dX1_prefix_11 ⟨by show _ ≤ 2; omega, by show _ ≤ 204; omega⟩) ?_
  exact z_QJ hF hr hlk (rfl) (by rw [hwl]) hS trivial (by omega) (by omega) dX1_prefix_14
set_option maxHeartbeats 4000000 in
/-- suffix -/
theorem m_X1_sfx (l : Launch) (E : EvT) (sz : Nat) (d : Nat) (t u : List Nat) : Met l yX1_suffix (ws_ yX1_suffix cX1_suffix 1 (some .int)) ({ frames := 7, cells := 2, slots := 204, locals := 197 }) (PcE [.ref d] E (Nw sz) sz (fun H => Dsk E H d t u)) (QJ (nI (sfx t u)) (fun _ => True) (Nw sz)) 2 204 (Nw sz) := by
  refine ofE RX1 rfl (by decide) (Nat.le_of_ble_eq_true rfl) ?_
  intro pp ee s mm bw me cd ls hF hr hlk hnm hsz hE hX hl
  subst hsz
  have hx := hF.1
  have hb := hF.2.1
  have hS : va_S (Nw s.heap.size) s.heap s.heap [] := va_S.rf
  have hl : lv_has ls 1 [(0, .ref d)] := hl
  have hA : ∀ q, s.heap.size ≤ q → (Nw s.heap.size) q := fun _ h => h
  have hX0 := hX
  obtain ⟨fa, fb, hP, hfa, hfb⟩ := hX
  refine lv_aload_n hx hb dX1_suffix_0 rfl (lv_at hl 0 rfl) ?_
  refine va_get (D := E.1) (cl := vwCl) (ci := 2) (v := .ref fa) (C := RX1) (T := TX1) (N := 2) hx hb hF.2.2.2.2 in_X1 hF.2.2.2.1 hE.1 hP 0 rfl rfl 0 (by decide) (hF.2.2.2.2 _ q25) (fun _ h9 => h9) rfl dX1_suffix_1 ?_
  refine lv_aload_n hx hb dX1_suffix_4 rfl (lv_at hl 0 rfl) ?_
  refine va_get (D := E.1) (cl := vwCl) (ci := 2) (v := .ref fb) (C := RX1) (T := TX1) (N := 2) hx hb hF.2.2.2.2 in_X1 hF.2.2.2.1 hE.1 hP 0 rfl rfl 1 (by decide) (hF.2.2.2.2 _ q26) (fun _ h9 => h9) rfl dX1_suffix_5 ?_
  refine tQR (uS 2 (rest := []) hF hE hS (fun q z => hA q (Nat.le_trans hS.1 z)) (m_X2_sfx l E s.heap.size fa fb t u) (lw_S q550 q551 q2 q552) ⟨hfa.no, hfb.no⟩ hl.1 rfl dX1_suffix_8 ⟨by show _ ≤ 2; omega, by show _ ≤ 204; omega⟩) hS (fun q z => hA q (Nat.le_trans hS.1 z)) (fun r1 H_1 locs_1 hB hz_1 hk_1 hSn => ?_)
  obtain ⟨w, hw, hwl⟩ := hB
  have hS := hSn
  refine tI (v := nI w.length) (uV 0 (rest := []) hF hE hS (fun _ z => absurd z id) (m_len l E H_1.size r1 w) (lw_V q37 q38 q39 q4 q40) (hw.recv hE) hw hl.1 rfl dX1_suffix_11 ⟨by show _ ≤ 2; omega, by show _ ≤ 204; omega⟩) ?_
  exact z_QJ hF hr hlk (rfl) (by rw [hwl]) hS trivial (by omega) (by omega) dX1_suffix_14
set_option maxHeartbeats 4000000 in
/-- init -/
theorem m_X1_init (l : Launch) (E : EvT) (sz : Nat) (d : Nat) : Met l yX1_init (ws_ yX1_init cX1_init 1 none) ({ frames := 1, cells := 0, slots := 0, locals := 12 }) (PcE [.ref d] E (Ad d sz) sz (fun H => va_P E.1 vwCl [(d, .inr (2, [.null, .null]))] H)) (QW (fun H1 => Dsk E H1 d [] []) (Ad d sz)) 0 0 (Ad d sz) := by
  refine ofE RX1 rfl (by decide) (Nat.le_of_ble_eq_true rfl) ?_
  intro pp ee s mm bw me cd ls hF hr hlk hnm hsz hE hX hl
  subst hsz
  have hx := hF.1
  have hb := hF.2.1
  have hS : va_S (Ad d s.heap.size) s.heap s.heap [] := va_S.rf
  have hl : lv_has ls 1 [(0, .ref d)] := hl
  have hP := hX
  have hD := d_one (A := Ad d s.heap.size) (a := d) (e := .inr (2, [.null, .null])) (Or.inl rfl)
  have hP : va_P E.1 vwCl [(d, .inr (2, [.null, .null]))] s.heap := hP
  have hD : va_D (Ad d s.heap.size) [(d, .inr (2, [.null, .null]))] := hD
  refine lv_aload_n hx hb dX1_init_0 rfl (lv_at hl 0 rfl) ?_
  refine W.objInit hx hb hF.2.2.2.1 (hF.2.2.2.2 _ q21) (hF.2.2.2.2 _ q22) (hF.2.2.2.2 _ q23) rfl (by rw [hF.2.2.1]; exact hl.1) rfl dX1_init_1 (Nat.le_of_ble_eq_true rfl) (Nat.le_of_ble_eq_true rfl) ?_
  refine W.eq (g2 := F0 mm 4 ls []) rfl ?_
  refine lv_aload_n hx hb dX1_init_4 rfl (lv_at hl 0 rfl) ?_
  refine va_ldcS (own := RX1) (index := 7) (tx := "") hx hb hF.2.2.2.1 hE.2.2.2.2.1.1 dX1_init_5 ?_
  refine va_put (D := E.1) (cl := vwCl) (ci := 2) (v := .ref (eS E)) (ty := (.object "java/lang/String")) (C := RX1) (T := TX1) (N := 2) hx hb hF.2.2.2.2 in_X1 tyX1 tyX1_ok nmX1 hF.2.2.2.1 hE.1 hP hD hS 0 rfl rfl 0 (by decide) (hF.2.2.2.2 _ q25) (fun _ h9 => h9) rfl (by decide +kernel) rfl rfl (Nat.le_of_ble_eq_true rfl) dX1_init_7 (fun H_1 locs_1 hP hD hS => ?_)
  have hP : va_P E.1 vwCl [(d, .inr (2, [.ref (eS E), .null]))] H_1 := hP
  have hD : va_D (Ad d s.heap.size) [(d, .inr (2, [.ref (eS E), .null]))] := hD
  refine lv_aload_n hx hb dX1_init_10 rfl (lv_at hl 0 rfl) ?_
  refine va_ldcS (own := RX1) (index := 7) (tx := "") hx hb hF.2.2.2.1 hE.2.2.2.2.1.1 dX1_init_11 ?_
  refine va_put (D := E.1) (cl := vwCl) (ci := 2) (v := .ref (eS E)) (ty := (.object "java/lang/String")) (C := RX1) (T := TX1) (N := 2) hx hb hF.2.2.2.2 in_X1 tyX1 tyX1_ok nmX1 hF.2.2.2.1 hE.1 hP hD hS 0 rfl rfl 1 (by decide) (hF.2.2.2.2 _ q26) (fun _ h9 => h9) rfl (by decide +kernel) rfl rfl (Nat.le_of_ble_eq_true rfl) dX1_init_13 (fun H_2 locs_2 hP hD hS => ?_)
  have hP : va_P E.1 vwCl [(d, .inr (2, [.ref (eS E), .ref (eS E)]))] H_2 := hP
  have hD : va_D (Ad d s.heap.size) [(d, .inr (2, [.ref (eS E), .ref (eS E)]))] := hD
  have he : Str E (Eqd d) H_2 (eS E) [] := hE.2.2.2.2.2.2.at hS (fun q z => Or.inl z)
  exact z_QW hF hr hlk hS ⟨_, _, hP, he, he⟩ (by omega) (by omega) dX1_init_16
set_option maxHeartbeats 4000000 in
/-- empty -/
theorem m_X1_empty (l : Launch) (E : EvT) (sz : Nat) (d : Nat) (t u : List Nat) (x : Int32) : Met l yX1_empty (ws_ yX1_empty cX1_empty 2 none) ({ frames := 0, cells := 0, slots := 0, locals := 0 }) (PcE [.ref d, .int (x)] E (Ad d sz) sz (fun H => Dsk E H d t u)) (QW (fun H1 => Dsk E H1 d (if od x = 0 then [] else t) (if od x = 0 then u else [])) (Ad d sz)) 0 0 (Ad d sz) := by
  refine ofE RX1 rfl (by decide) (Nat.le_of_ble_eq_true rfl) ?_
  intro pp ee s mm bw me cd ls hF hr hlk hnm hsz hE hX hl
  subst hsz
  have hx := hF.1
  have hb := hF.2.1
  have hS : va_S (Ad d s.heap.size) s.heap s.heap [] := va_S.rf
  have hl : lv_has ls 2 [(0, .ref d), (1, .int (x))] := hl
  have hX0 := hX
  have hE0 := hE
  have hE : Ev E (Nw s.heap.size) s s.heap := hE0.at va_S.rf (fun q z => Or.inr z)
  have hS : va_S (Nw s.heap.size) s.heap s.heap [] := va_S.rf
  have hA : ∀ q, s.heap.size ≤ q → (Nw s.heap.size) q := fun _ h => h
  have he0 : Str E (Eqd d) s.heap (eS E) [] := hE0.2.2.2.2.2.2.mono (fun q _ z => Or.inl z)
  obtain ⟨fa, fb, hP0, hfa, hfb⟩ := hX
  have hd0 := p_lt hP0 0 rfl
  have hod := od_lt x
  have hPd := hP0
  refine lv_iload_n hx hb dX1_empty_0 rfl (lv_at hl 1 rfl) ?_
  refine lv_iconst (v := nI 1) hx hb dX1_empty_1 (by decide) ?_
  refine lv_iand hx hb dX1_empty_2 ?_
  refine w_to (nI (od x)) (od_and x) ?_
  refine lv_if_ne (tgt := 15) hx hb dX1_empty_3 (by decide) (fun c_1 => ?_) (fun c_1 => ?_)
  · skip
    have ho : ¬ od x = 0 := fun z => c_1 (by rw [z]; exact nI_0)
    refine lv_aload_n hx hb dX1_empty_15 rfl (lv_at hl 0 rfl) ?_
    refine va_ldcS (own := RX1) (index := 7) (tx := "") hx hb hF.2.2.2.1 hE.2.2.2.2.1.1 dX1_empty_16 ?_
    refine r_putd (r := eS E) hF hE hS hPd 1 (by decide) q26 rfl rfl (by decide +kernel) dX1_empty_18 (fun H_2 locs_2 hPd hS hkd => ?_)
    exact z_QW hF hr hlk hS (by rw [if_neg ho, if_neg ho]; exact ⟨_, _, hPd, (hfa.st hkd (fun _ _ z => z)), (he0.st hkd (fun _ _ z => z))⟩) (by omega) (by omega) dX1_empty_21
  · skip
    have ho : od x = 0 := (nI_z (by omega)).mp c_1
    refine lv_aload_n hx hb dX1_empty_6 rfl (lv_at hl 0 rfl) ?_
    refine va_ldcS (own := RX1) (index := 7) (tx := "") hx hb hF.2.2.2.1 hE.2.2.2.2.1.1 dX1_empty_7 ?_
    refine r_putd (r := eS E) hF hE hS hPd 0 (by decide) q25 rfl rfl (by decide +kernel) dX1_empty_9 (fun H_3 locs_3 hPd hS hkd => ?_)
    refine lv_goto (tgt := 21) hx hb dX1_empty_12 (by decide) ?_
    exact z_QW hF hr hlk hS (by rw [if_pos ho, if_pos ho]; exact ⟨_, _, hPd, (he0.st hkd (fun _ _ z => z)), (hfb.st hkd (fun _ _ z => z))⟩) (by omega) (by omega) dX1_empty_21
set_option maxHeartbeats 4000000 in
/-- padStart -/
theorem m_X1_padS (l : Launch) (E : EvT) (sz : Nat) (d : Nat) (t u : List Nat) (y z : Int32) : Met l yX1_padStart (ws_ yX1_padStart cX1_padStart 3 none) ({ frames := 7, cells := 4, slots := 308, locals := 195 }) (PcE [.ref d, .int (y), .int (z)] E (Ad d sz) sz (fun H => Dsk E H d t u)) (QW (fun H1 => Dsk E H1 d t (padS t (y6 y) (sg z))) (Ad d sz)) 4 308 (Ad d sz) := by
  refine ofE RX1 rfl (by decide) (Nat.le_of_ble_eq_true rfl) ?_
  intro pp ee s mm bw me cd ls hF hr hlk hnm hsz hE hX hl
  subst hsz
  have hx := hF.1
  have hb := hF.2.1
  have hS : va_S (Ad d s.heap.size) s.heap s.heap [] := va_S.rf
  have hl : lv_has ls 3 [(0, .ref d), (1, .int (y)), (2, .int (z))] := hl
  have hX0 := hX
  have hE0 := hE
  have hE : Ev E (Nw s.heap.size) s s.heap := hE0.at va_S.rf (fun q z => Or.inr z)
  have hS : va_S (Nw s.heap.size) s.heap s.heap [] := va_S.rf
  have hA : ∀ q, s.heap.size ≤ q → (Nw s.heap.size) q := fun _ h => h
  have he0 : Str E (Eqd d) s.heap (eS E) [] := hE0.2.2.2.2.2.2.mono (fun q _ z => Or.inl z)
  obtain ⟨fa, fb, hP0, hfa, hfb⟩ := hX
  have hd0 := p_lt hP0 0 rfl
  have hy := y6_lt y
  have hP := hP0
  refine lv_aload_n hx hb dX1_padStart_0 rfl (lv_at hl 0 rfl) ?_
  refine lv_aload_n hx hb dX1_padStart_1 rfl (lv_at hl 0 rfl) ?_
  refine va_get (D := E.1) (cl := vwCl) (ci := 2) (v := .ref fa) (C := RX1) (T := TX1) (N := 2) hx hb hF.2.2.2.2 in_X1 hF.2.2.2.1 hE.1 hP 0 rfl rfl 0 (by decide) (hF.2.2.2.2 _ q25) (fun _ h9 => h9) rfl dX1_padStart_2 ?_
  refine lv_iload_n hx hb dX1_padStart_5 rfl (lv_at hl 1 rfl) ?_
  refine lv_bipush (v := nI 63) hx hb dX1_padStart_6 (by decide) ?_
  refine lv_iand hx hb dX1_padStart_8 ?_
  refine w_to (nI (y6 y)) (y6_and y) ?_
  refine lv_iload_n hx hb dX1_padStart_9 rfl (lv_at hl 2 rfl) ?_
  refine tI (v := nI (sg z)) (uS 1 (rest := [.int (nI (y6 y)), .ref fa, .ref d]) hF hE hS (fun _ z => absurd z id) (m_X1_sign l E s.heap.size z) (lw_S q195 q196 q1 q197) trivial hl.1 rfl dX1_padStart_10 ⟨by show _ ≤ 4; omega, by show _ ≤ 308; omega⟩) ?_
  refine tQR (uS 3 (rest := [.ref d]) hF hE hS (fun q z => hA q (Nat.le_trans hS.1 z)) (m_X2_padS l E s.heap.size fa t (y6 y) (sg z) (by omega) (sg_lt z) (Eqd d) (fun q z => by rw [z]; exact hd0)) (lw_S q289 q290 q2 q291) hfa hl.1 rfl dX1_padStart_13 ⟨by show _ ≤ 4; omega, by show _ ≤ 308; omega⟩) hS (fun q z => hA q (Nat.le_trans hS.1 z)) (fun r1 H_1 locs_1 hB hz_1 hk_1 hSn => ?_)
  have hPd := p_stN hP0 hk_1
  have hfa := hfa.keep hk_1
  have hS := hSn
  refine r_putd (r := r1) hF hE hS hPd 1 (by decide) q26 rfl rfl (by decide +kernel) dX1_padStart_16 (fun H_2 locs_2 hPd hS hkd => ?_)
  exact z_QW hF hr hlk hS ⟨_, _, hPd, (hfa.st hkd (fun _ _ z => z)), (hB.st hkd (fun _ _ z => z))⟩ (by omega) (by omega) dX1_padStart_19
set_option maxHeartbeats 4000000 in
/-- padEnd -/
theorem m_X1_padE (l : Launch) (E : EvT) (sz : Nat) (d : Nat) (t u : List Nat) (y z : Int32) : Met l yX1_padEnd (ws_ yX1_padEnd cX1_padEnd 3 none) ({ frames := 7, cells := 4, slots := 308, locals := 195 }) (PcE [.ref d, .int (y), .int (z)] E (Ad d sz) sz (fun H => Dsk E H d t u)) (QW (fun H1 => Dsk E H1 d t (padE t (y6 y) (sg z))) (Ad d sz)) 4 308 (Ad d sz) := by
  refine ofE RX1 rfl (by decide) (Nat.le_of_ble_eq_true rfl) ?_
  intro pp ee s mm bw me cd ls hF hr hlk hnm hsz hE hX hl
  subst hsz
  have hx := hF.1
  have hb := hF.2.1
  have hS : va_S (Ad d s.heap.size) s.heap s.heap [] := va_S.rf
  have hl : lv_has ls 3 [(0, .ref d), (1, .int (y)), (2, .int (z))] := hl
  have hX0 := hX
  have hE0 := hE
  have hE : Ev E (Nw s.heap.size) s s.heap := hE0.at va_S.rf (fun q z => Or.inr z)
  have hS : va_S (Nw s.heap.size) s.heap s.heap [] := va_S.rf
  have hA : ∀ q, s.heap.size ≤ q → (Nw s.heap.size) q := fun _ h => h
  have he0 : Str E (Eqd d) s.heap (eS E) [] := hE0.2.2.2.2.2.2.mono (fun q _ z => Or.inl z)
  obtain ⟨fa, fb, hP0, hfa, hfb⟩ := hX
  have hd0 := p_lt hP0 0 rfl
  have hy := y6_lt y
  have hP := hP0
  refine lv_aload_n hx hb dX1_padEnd_0 rfl (lv_at hl 0 rfl) ?_
  refine lv_aload_n hx hb dX1_padEnd_1 rfl (lv_at hl 0 rfl) ?_
  refine va_get (D := E.1) (cl := vwCl) (ci := 2) (v := .ref fa) (C := RX1) (T := TX1) (N := 2) hx hb hF.2.2.2.2 in_X1 hF.2.2.2.1 hE.1 hP 0 rfl rfl 0 (by decide) (hF.2.2.2.2 _ q25) (fun _ h9 => h9) rfl dX1_padEnd_2 ?_
  refine lv_iload_n hx hb dX1_padEnd_5 rfl (lv_at hl 1 rfl) ?_
  refine lv_bipush (v := nI 63) hx hb dX1_padEnd_6 (by decide) ?_
  refine lv_iand hx hb dX1_padEnd_8 ?_
  refine w_to (nI (y6 y)) (y6_and y) ?_
  refine lv_iload_n hx hb dX1_padEnd_9 rfl (lv_at hl 2 rfl) ?_
  refine tI (v := nI (sg z)) (uS 1 (rest := [.int (nI (y6 y)), .ref fa, .ref d]) hF hE hS (fun _ z => absurd z id) (m_X1_sign l E s.heap.size z) (lw_S q195 q196 q1 q197) trivial hl.1 rfl dX1_padEnd_10 ⟨by show _ ≤ 4; omega, by show _ ≤ 308; omega⟩) ?_
  refine tQR (uS 3 (rest := [.ref d]) hF hE hS (fun q z => hA q (Nat.le_trans hS.1 z)) (m_X2_padE l E s.heap.size fa t (y6 y) (sg z) (by omega) (sg_lt z) (Eqd d) (fun q z => by rw [z]; exact hd0)) (lw_S q310 q311 q2 q312) hfa hl.1 rfl dX1_padEnd_13 ⟨by show _ ≤ 4; omega, by show _ ≤ 308; omega⟩) hS (fun q z => hA q (Nat.le_trans hS.1 z)) (fun r1 H_1 locs_1 hB hz_1 hk_1 hSn => ?_)
  have hPd := p_stN hP0 hk_1
  have hfa := hfa.keep hk_1
  have hS := hSn
  refine r_putd (r := r1) hF hE hS hPd 1 (by decide) q26 rfl rfl (by decide +kernel) dX1_padEnd_16 (fun H_2 locs_2 hPd hS hkd => ?_)
  exact z_QW hF hr hlk hS ⟨_, _, hPd, (hfa.st hkd (fun _ _ z => z)), (hB.st hkd (fun _ _ z => z))⟩ (by omega) (by omega) dX1_padEnd_19
set_option maxHeartbeats 4000000 in
/-- lower -/
theorem m_X1_lo (l : Launch) (E : EvT) (sz : Nat) (d : Nat) (t u : List Nat) (x : Int32) : Met l yX1_lower (ws_ yX1_lower cX1_lower 2 none) ({ frames := 6, cells := 3, slots := 204, locals := 141 }) (PcE [.ref d, .int (x)] E (Ad d sz) sz (fun H => Dsk E H d t u)) (QW (fun H1 => Dsk E H1 d (if od x = 0 then t.map lo else t) (if od x = 0 then u else u.map lo)) (Ad d sz)) 3 204 (Ad d sz) := by
  refine ofE RX1 rfl (by decide) (Nat.le_of_ble_eq_true rfl) ?_
  intro pp ee s mm bw me cd ls hF hr hlk hnm hsz hE hX hl
  subst hsz
  have hx := hF.1
  have hb := hF.2.1
  have hS : va_S (Ad d s.heap.size) s.heap s.heap [] := va_S.rf
  have hl : lv_has ls 2 [(0, .ref d), (1, .int (x))] := hl
  have hX0 := hX
  have hE0 := hE
  have hE : Ev E (Nw s.heap.size) s s.heap := hE0.at va_S.rf (fun q z => Or.inr z)
  have hS : va_S (Nw s.heap.size) s.heap s.heap [] := va_S.rf
  have hA : ∀ q, s.heap.size ≤ q → (Nw s.heap.size) q := fun _ h => h
  have he0 : Str E (Eqd d) s.heap (eS E) [] := hE0.2.2.2.2.2.2.mono (fun q _ z => Or.inl z)
  obtain ⟨fa, fb, hP0, hfa, hfb⟩ := hX
  have hd0 := p_lt hP0 0 rfl
  have hod := od_lt x
  have hP := hP0
  refine lv_iload_n hx hb dX1_lower_0 rfl (lv_at hl 1 rfl) ?_
  refine lv_iconst (v := nI 1) hx hb dX1_lower_1 (by decide) ?_
  refine lv_iand hx hb dX1_lower_2 ?_
  refine w_to (nI (od x)) (od_and x) ?_
  refine lv_if_ne (tgt := 20) hx hb dX1_lower_3 (by decide) (fun c_1 => ?_) (fun c_1 => ?_)
  · skip
    have ho : ¬ od x = 0 := fun z => c_1 (by rw [z]; exact nI_0)
    refine lv_aload_n hx hb dX1_lower_20 rfl (lv_at hl 0 rfl) ?_
    refine lv_aload_n hx hb dX1_lower_21 rfl (lv_at hl 0 rfl) ?_
    refine va_get (D := E.1) (cl := vwCl) (ci := 2) (v := .ref fb) (C := RX1) (T := TX1) (N := 2) hx hb hF.2.2.2.2 in_X1 hF.2.2.2.1 hE.1 hP 0 rfl rfl 1 (by decide) (hF.2.2.2.2 _ q26) (fun _ h9 => h9) rfl dX1_lower_22 ?_
    refine tQR (uS 1 (rest := [.ref d]) hF hE hS (fun q z => hA q (Nat.le_trans hS.1 z)) (m_X4_lo l E s.heap.size fb u (Eqd d) (fun q z => by rw [z]; exact hd0)) (lw_S q317 q318 q12 q319) hfb hl.1 rfl dX1_lower_25 ⟨by show _ ≤ 3; omega, by show _ ≤ 204; omega⟩) hS (fun q z => hA q (Nat.le_trans hS.1 z)) (fun r1 H_2 locs_2 hB hz_2 hk_2 hSn => ?_)
    have hPd := p_stN hP0 hk_2
    have hfa := hfa.keep hk_2
    have hS := hSn
    refine r_putd (r := r1) hF hE hS hPd 1 (by decide) q26 rfl rfl (by decide +kernel) dX1_lower_28 (fun H_3 locs_3 hPd hS hkd => ?_)
    exact z_QW hF hr hlk hS (by rw [if_neg ho, if_neg ho]; exact ⟨_, _, hPd, (hfa.st hkd (fun _ _ z => z)), (hB.st hkd (fun _ _ z => z))⟩) (by omega) (by omega) dX1_lower_31
  · skip
    have ho : od x = 0 := (nI_z (by omega)).mp c_1
    refine lv_aload_n hx hb dX1_lower_6 rfl (lv_at hl 0 rfl) ?_
    refine lv_aload_n hx hb dX1_lower_7 rfl (lv_at hl 0 rfl) ?_
    refine va_get (D := E.1) (cl := vwCl) (ci := 2) (v := .ref fa) (C := RX1) (T := TX1) (N := 2) hx hb hF.2.2.2.2 in_X1 hF.2.2.2.1 hE.1 hP 0 rfl rfl 0 (by decide) (hF.2.2.2.2 _ q25) (fun _ h9 => h9) rfl dX1_lower_8 ?_
    refine tQR (uS 1 (rest := [.ref d]) hF hE hS (fun q z => hA q (Nat.le_trans hS.1 z)) (m_X4_lo l E s.heap.size fa t (Eqd d) (fun q z => by rw [z]; exact hd0)) (lw_S q317 q318 q12 q319) hfa hl.1 rfl dX1_lower_11 ⟨by show _ ≤ 3; omega, by show _ ≤ 204; omega⟩) hS (fun q z => hA q (Nat.le_trans hS.1 z)) (fun r1 H_4 locs_4 hB hz_4 hk_4 hSn => ?_)
    have hPd := p_stN hP0 hk_4
    have hfb := hfb.keep hk_4
    have hS := hSn
    refine r_putd (r := r1) hF hE hS hPd 0 (by decide) q25 rfl rfl (by decide +kernel) dX1_lower_14 (fun H_5 locs_5 hPd hS hkd => ?_)
    refine lv_goto (tgt := 31) hx hb dX1_lower_17 (by decide) ?_
    exact z_QW hF hr hlk hS (by rw [if_pos ho, if_pos ho]; exact ⟨_, _, hPd, (hB.st hkd (fun _ _ z => z)), (hfb.st hkd (fun _ _ z => z))⟩) (by omega) (by omega) dX1_lower_31
set_option maxHeartbeats 4000000 in
/-- upper -/
theorem m_X1_hi (l : Launch) (E : EvT) (sz : Nat) (d : Nat) (t u : List Nat) (x : Int32) : Met l yX1_upper (ws_ yX1_upper cX1_upper 2 none) ({ frames := 6, cells := 3, slots := 204, locals := 141 }) (PcE [.ref d, .int (x)] E (Ad d sz) sz (fun H => Dsk E H d t u)) (QW (fun H1 => Dsk E H1 d (if od x = 0 then t.map hi else t) (if od x = 0 then u else u.map hi)) (Ad d sz)) 3 204 (Ad d sz) := by
  refine ofE RX1 rfl (by decide) (Nat.le_of_ble_eq_true rfl) ?_
  intro pp ee s mm bw me cd ls hF hr hlk hnm hsz hE hX hl
  subst hsz
  have hx := hF.1
  have hb := hF.2.1
  have hS : va_S (Ad d s.heap.size) s.heap s.heap [] := va_S.rf
  have hl : lv_has ls 2 [(0, .ref d), (1, .int (x))] := hl
  have hX0 := hX
  have hE0 := hE
  have hE : Ev E (Nw s.heap.size) s s.heap := hE0.at va_S.rf (fun q z => Or.inr z)
  have hS : va_S (Nw s.heap.size) s.heap s.heap [] := va_S.rf
  have hA : ∀ q, s.heap.size ≤ q → (Nw s.heap.size) q := fun _ h => h
  have he0 : Str E (Eqd d) s.heap (eS E) [] := hE0.2.2.2.2.2.2.mono (fun q _ z => Or.inl z)
  obtain ⟨fa, fb, hP0, hfa, hfb⟩ := hX
  have hd0 := p_lt hP0 0 rfl
  have hod := od_lt x
  have hP := hP0
  refine lv_iload_n hx hb dX1_upper_0 rfl (lv_at hl 1 rfl) ?_
  refine lv_iconst (v := nI 1) hx hb dX1_upper_1 (by decide) ?_
  refine lv_iand hx hb dX1_upper_2 ?_
  refine w_to (nI (od x)) (od_and x) ?_
  refine lv_if_ne (tgt := 20) hx hb dX1_upper_3 (by decide) (fun c_1 => ?_) (fun c_1 => ?_)
  · skip
    have ho : ¬ od x = 0 := fun z => c_1 (by rw [z]; exact nI_0)
    refine lv_aload_n hx hb dX1_upper_20 rfl (lv_at hl 0 rfl) ?_
    refine lv_aload_n hx hb dX1_upper_21 rfl (lv_at hl 0 rfl) ?_
    refine va_get (D := E.1) (cl := vwCl) (ci := 2) (v := .ref fb) (C := RX1) (T := TX1) (N := 2) hx hb hF.2.2.2.2 in_X1 hF.2.2.2.1 hE.1 hP 0 rfl rfl 1 (by decide) (hF.2.2.2.2 _ q26) (fun _ h9 => h9) rfl dX1_upper_22 ?_
    refine tQR (uS 1 (rest := [.ref d]) hF hE hS (fun q z => hA q (Nat.le_trans hS.1 z)) (m_X4_hi l E s.heap.size fb u (Eqd d) (fun q z => by rw [z]; exact hd0)) (lw_S q382 q383 q12 q384) hfb hl.1 rfl dX1_upper_25 ⟨by show _ ≤ 3; omega, by show _ ≤ 204; omega⟩) hS (fun q z => hA q (Nat.le_trans hS.1 z)) (fun r1 H_2 locs_2 hB hz_2 hk_2 hSn => ?_)
    have hPd := p_stN hP0 hk_2
    have hfa := hfa.keep hk_2
    have hS := hSn
    refine r_putd (r := r1) hF hE hS hPd 1 (by decide) q26 rfl rfl (by decide +kernel) dX1_upper_28 (fun H_3 locs_3 hPd hS hkd => ?_)
    exact z_QW hF hr hlk hS (by rw [if_neg ho, if_neg ho]; exact ⟨_, _, hPd, (hfa.st hkd (fun _ _ z => z)), (hB.st hkd (fun _ _ z => z))⟩) (by omega) (by omega) dX1_upper_31
  · skip
    have ho : od x = 0 := (nI_z (by omega)).mp c_1
    refine lv_aload_n hx hb dX1_upper_6 rfl (lv_at hl 0 rfl) ?_
    refine lv_aload_n hx hb dX1_upper_7 rfl (lv_at hl 0 rfl) ?_
    refine va_get (D := E.1) (cl := vwCl) (ci := 2) (v := .ref fa) (C := RX1) (T := TX1) (N := 2) hx hb hF.2.2.2.2 in_X1 hF.2.2.2.1 hE.1 hP 0 rfl rfl 0 (by decide) (hF.2.2.2.2 _ q25) (fun _ h9 => h9) rfl dX1_upper_8 ?_
    refine tQR (uS 1 (rest := [.ref d]) hF hE hS (fun q z => hA q (Nat.le_trans hS.1 z)) (m_X4_hi l E s.heap.size fa t (Eqd d) (fun q z => by rw [z]; exact hd0)) (lw_S q382 q383 q12 q384) hfa hl.1 rfl dX1_upper_11 ⟨by show _ ≤ 3; omega, by show _ ≤ 204; omega⟩) hS (fun q z => hA q (Nat.le_trans hS.1 z)) (fun r1 H_4 locs_4 hB hz_4 hk_4 hSn => ?_)
    have hPd := p_stN hP0 hk_4
    have hfb := hfb.keep hk_4
    have hS := hSn
    refine r_putd (r := r1) hF hE hS hPd 0 (by decide) q25 rfl rfl (by decide +kernel) dX1_upper_14 (fun H_5 locs_5 hPd hS hkd => ?_)
    refine lv_goto (tgt := 31) hx hb dX1_upper_17 (by decide) ?_
    exact z_QW hF hr hlk hS (by rw [if_pos ho, if_pos ho]; exact ⟨_, _, hPd, (hB.st hkd (fun _ _ z => z)), (hfb.st hkd (fun _ _ z => z))⟩) (by omega) (by omega) dX1_upper_31
set_option maxHeartbeats 4000000 in
/-- put -/
theorem m_X1_put (l : Launch) (E : EvT) (sz : Nat) (d : Nat) (t u : List Nat) (x y z : Int32) : Met l yX1_put (ws_ yX1_put cX1_put 4 (some .boolean)) ({ frames := 8, cells := 4, slots := 308, locals := 214 }) (PcE [.ref d, .int (x), .int (y), .int (z)] E (Ad d sz) sz (fun H => Dsk E H d t u)) (QJ (nI (if (if od x = 0 then t else u).length ≤ 60 then 1 else 0)) (fun H1 => Dsk E H1 d (if od x = 0 then two t y z else t) (if od x = 0 then u else two u y z)) (Ad d sz)) 4 308 (Ad d sz) := by
  refine ofE RX1 rfl (by decide) (Nat.le_of_ble_eq_true rfl) ?_
  intro pp ee s mm bw me cd ls hF hr hlk hnm hsz hE hX hl
  subst hsz
  have hx := hF.1
  have hb := hF.2.1
  have hS : va_S (Ad d s.heap.size) s.heap s.heap [] := va_S.rf
  have hl : lv_has ls 4 [(0, .ref d), (1, .int (x)), (2, .int (y)), (3, .int (z))] := hl
  have hX0 := hX
  have hE0 := hE
  have hE : Ev E (Nw s.heap.size) s s.heap := hE0.at va_S.rf (fun q z => Or.inr z)
  have hS : va_S (Nw s.heap.size) s.heap s.heap [] := va_S.rf
  have hA : ∀ q, s.heap.size ≤ q → (Nw s.heap.size) q := fun _ h => h
  have he0 : Str E (Eqd d) s.heap (eS E) [] := hE0.2.2.2.2.2.2.mono (fun q _ z => Or.inl z)
  obtain ⟨fa, fb, hP0, hfa, hfb⟩ := hX
  have hd0 := p_lt hP0 0 rfl
  have hod := od_lt x
  have hcy := sg_lt y
  have hcz := sg_lt z
  have hP := hP0
  refine lv_iload_n hx hb dX1_put_0 rfl (lv_at hl 1 rfl) ?_
  refine lv_iconst (v := nI 1) hx hb dX1_put_1 (by decide) ?_
  refine lv_iand hx hb dX1_put_2 ?_
  refine w_to (nI (od x)) (od_and x) ?_
  refine lv_if_ne (tgt := 55) hx hb dX1_put_3 (by decide) (fun c_1 => ?_) (fun c_1 => ?_)
  · skip
    have ho : ¬ od x = 0 := fun z => c_1 (by rw [z]; exact nI_0)
    have hT := hfb.1
    have h64 := hT.len
    have hXw := hfb.nw
    refine lv_aload_n hx hb dX1_put_55 rfl (lv_at hl 0 rfl) ?_
    refine va_get (D := E.1) (cl := vwCl) (ci := 2) (v := .ref fb) (C := RX1) (T := TX1) (N := 2) hx hb hF.2.2.2.2 in_X1 hF.2.2.2.1 hE.1 hP 0 rfl rfl 1 (by decide) (hF.2.2.2.2 _ q26) (fun _ h9 => h9) rfl dX1_put_56 ?_
    refine tI (v := nI u.length) (uV 0 (rest := []) hF hE hS (fun _ z => absurd z id) (m_len l E s.heap.size fb u) (lw_V q37 q38 q39 q4 q40) (hfb.recv hE) hfb.no hl.1 rfl dX1_put_59 ⟨by show _ ≤ 4; omega, by show _ ≤ 308; omega⟩) ?_
    refine lv_bipush (v := nI 60) hx hb dX1_put_62 (by decide) ?_
    refine lv_icmp_le (tgt := 69) hx hb dX1_put_64 (by decide) (fun c_2 => ?_) (fun c_2 => ?_)
    · skip
      have hle : u.length ≤ 60 := (nI_leI (by omega) (by omega)).mp c_2
      have hT2 := two_tx (y := y) (z := z) hT hle
      have hlen : (u ++ [sg y, sg z]).length = u.length + 1 + 1 := by rw [List.length_append]; rfl
      refine lv_aload_n hx hb dX1_put_69 rfl (lv_at hl 0 rfl) ?_
      have hP := p_nil (E := E) (H := s.heap)
      have hD := d_nil (A := Nw s.heap.size)
      refine va_new (D := E.1) (cl := vwCl) (ci := 1) (fs := [.null, .int 0, .int 0, .int 0]) (C := RJ8) (T := TJ8) (N := 4) hx hb hF.2.2.2.2 in_J8 tyJ8 tyJ8_ok hF.2.2.2.1 (hF.2.2.2.2 _ q47) (hF.2.2.2.2 _ q48) (hF.2.2.2.2 _ q14) hE.1 hP hD hS hA rfl (fun j hj => by rcases (show j = 0 ∨ j = 1 ∨ j = 2 ∨ j = 3 by omega) with rfl | rfl | rfl | rfl <;> rfl) (by show _ ≤ 4; omega) (by show _ ≤ 308; omega) dX1_put_70 (fun sb H_3 hP hD hS => ?_)
      have hP : va_P E.1 vwCl [(sb, .inr (1, [.null, .int 0, .int 0, .int 0]))] H_3 := hP
      have hD : va_D (Nw s.heap.size) [(sb, .inr (1, [.null, .int 0, .int 0, .int 0]))] := hD
      have hPd := p_at hP0 hS (fun k q h z => absurd (hP0 k q h).lt (Nat.not_lt.mpr z))
      refine lv_dup hx hb dX1_put_73 rfl ?_
      refine lv_aload_n hx hb dX1_put_74 rfl (lv_at hl 0 rfl) ?_
      have hPP := hP
      have hP := hPd
      refine va_get (D := E.1) (cl := vwCl) (ci := 2) (v := .ref fb) (C := RX1) (T := TX1) (N := 2) hx hb hF.2.2.2.2 in_X1 hF.2.2.2.1 hE.1 hP 0 rfl rfl 1 (by decide) (hF.2.2.2.2 _ q26) (fun _ h9 => h9) rfl dX1_put_75 ?_
      have hP := hPP
      refine tQW (uI 1 (rest := [.ref sb, .ref d]) hF hE hS (adA hD hS hA 0 rfl) (m_J8_ini l E H_3.size sb fb u) q14 q49 q50 q51 ⟨hP, hXw.at hS (adA hD hS hA 0 rfl)⟩ hl.1 rfl dX1_put_78 ⟨by show _ ≤ 4; omega, by show _ ≤ 308; omega⟩) hS (adA hD hS hA 0 rfl) (fun H_4 locs_4 hB hz_4 hk_4 hSn => ?_)
      obtain ⟨bv, g1, hP1, hD1, hg1, hf1⟩ := hB
      obtain ⟨hP, hD⟩ := j_setN hP hD 0 rfl hk_4 (fun q z => hA q (Nat.le_trans hS.1 z)) hP1 hD1
      have hS := hSn
      have hP : va_P E.1 vwCl [(sb, .inr (1, [.ref bv, .int 0, .int 0, .int (nI u.length)])), (bv, .inl (eB E, (u.length + 16), .inl g1))] H_4 := hP
      have hD : va_D (Nw s.heap.size) [(sb, .inr (1, [.ref bv, .int 0, .int 0, .int (nI u.length)])), (bv, .inl (eB E, (u.length + 16), .inl g1))] := hD
      have hne : sb ≠ bv := d_ne hD 0 1 rfl rfl (by decide)
      refine lv_iload_n hx hb dX1_put_81 rfl (lv_at hl 2 rfl) ?_
      refine tI (v := nI (sg y)) (uS 1 (rest := [.ref sb, .ref d]) hF hE hS (fun _ z => absurd z id) (m_X1_sign l E H_4.size y) (lw_S q195 q196 q1 q197) trivial hl.1 rfl dX1_put_82 ⟨by show _ ≤ 4; omega, by show _ ≤ 308; omega⟩) ?_
      refine tQR (uV 1 (rest := [.ref d]) hF hE hS (a2A hD hS hA 0 1 rfl rfl) (m_J8_apc l E H_4.size sb bv (u.length) (u.length + 16) (g1) (sg y) hcy hne (by omega) (by omega)) (lw_V q199 q200 q201 q14 q202) (va_recv hE.1 hP (ci := 1) (q0 := 0) rfl rfl) hP hl.1 rfl dX1_put_85 ⟨by show _ ≤ 4; omega, by show _ ≤ 308; omega⟩) hS (a2A hD hS hA 0 1 rfl rfl) (fun r2 H_5 locs_5 hB hz_5 hk_5 hSn => ?_)
      obtain ⟨hr2, hg1_⟩ := hB
      rw [hr2]
      obtain ⟨hP, hD⟩ := j_set2 hP hD 0 1 rfl rfl (by decide) hk_5 hg1_
      have hS := hSn
      have hP : va_P E.1 vwCl [(sb, .inr (1, [.ref bv, .int 0, .int 0, .int (nI (u.length + 1))])), (bv, .inl (eB E, (u.length + 16), .inl (upd g1 u.length (nI (sg y)))))] H_5 := hP
      have hD : va_D (Nw s.heap.size) [(sb, .inr (1, [.ref bv, .int 0, .int 0, .int (nI (u.length + 1))])), (bv, .inl (eB E, (u.length + 16), .inl (upd g1 u.length (nI (sg y)))))] := hD
      refine lv_iload_n hx hb dX1_put_88 rfl (lv_at hl 3 rfl) ?_
      refine tI (v := nI (sg z)) (uS 1 (rest := [.ref sb, .ref d]) hF hE hS (fun _ z => absurd z id) (m_X1_sign l E H_5.size z) (lw_S q195 q196 q1 q197) trivial hl.1 rfl dX1_put_89 ⟨by show _ ≤ 4; omega, by show _ ≤ 308; omega⟩) ?_
      refine tQR (uV 1 (rest := [.ref d]) hF hE hS (a2A hD hS hA 0 1 rfl rfl) (m_J8_apc l E H_5.size sb bv (u.length + 1) (u.length + 16) (upd g1 u.length (nI (sg y))) (sg z) hcz hne (by omega) (by omega)) (lw_V q199 q200 q201 q14 q202) (va_recv hE.1 hP (ci := 1) (q0 := 0) rfl rfl) hP hl.1 rfl dX1_put_92 ⟨by show _ ≤ 4; omega, by show _ ≤ 308; omega⟩) hS (a2A hD hS hA 0 1 rfl rfl) (fun r2 H_6 locs_6 hB hz_6 hk_6 hSn => ?_)
      obtain ⟨hr2, hg1_⟩ := hB
      rw [hr2]
      obtain ⟨hP, hD⟩ := j_set2 hP hD 0 1 rfl rfl (by decide) hk_6 hg1_
      have hS := hSn
      have hP : va_P E.1 vwCl [(sb, .inr (1, [.ref bv, .int 0, .int 0, .int (nI (u.length + 1 + 1))])), (bv, .inl (eB E, (u.length + 16), .inl (upd (upd g1 u.length (nI (sg y))) (u.length + 1) (nI (sg z)))))] H_6 := hP
      have hD : va_D (Nw s.heap.size) [(sb, .inr (1, [.ref bv, .int 0, .int 0, .int (nI (u.length + 1 + 1))])), (bv, .inl (eB E, (u.length + 16), .inl (upd (upd g1 u.length (nI (sg y))) (u.length + 1) (nI (sg z)))))] := hD
      have hQ : va_P E.1 vwCl (sbW E sb bv (u ++ [sg y, sg z]).length (u.length + 16) (upd (upd g1 u.length (nI (sg y))) (u.length + 1) (nI (sg z)))) H_6 := by rw [hlen]; exact hP
      refine tQR (uV 0 (rest := [.ref d]) hF hE hS (fun q z => hA q (Nat.le_trans hS.1 z)) (m_J8_toS l E H_6.size sb bv (u.length + 16) _ (u ++ [sg y, sg z]) hT2 (by omega) (by omega) (two_getD hg1) (sb_fitU (sb_fitU hf1 (c_fb _ hcy)) (c_fb _ hcz)) (Eqd d) (fun q z => by rw [z]; exact Nat.lt_of_lt_of_le hd0 hS.1)) (lw_V q221 q222 q223 q14 q224) (va_recv hE.1 hP (ci := 1) (q0 := 0) rfl rfl) hQ hl.1 rfl dX1_put_95 ⟨by show _ ≤ 4; omega, by show _ ≤ 308; omega⟩) hS (fun q z => hA q (Nat.le_trans hS.1 z)) (fun r1 H_7 locs_7 hB hz_7 hk_7 hSn => ?_)
      have hS := hSn
      have hPd : va_P E.1 vwCl [(d, .inr (2, [.ref fa, .ref fb]))] H_7 := p_at hP0 hS (fun k q h z => absurd (hP0 k q h).lt (Nat.not_lt.mpr z))
      have hfa : Str E (Eqd d) H_7 fa t := hfa.st hS.2.1 (fun _ hq z => absurd hq (Nat.not_lt.mpr z))
      refine r_putd (r := r1) hF hE hS hPd 1 (by decide) q26 rfl rfl (by decide +kernel) dX1_put_98 (fun H_8 locs_8 hPd hS hkd => ?_)
      refine lv_iconst (v := nI 1) hx hb dX1_put_101 (by decide) ?_
      exact z_QJ hF hr hlk (rfl) (by rw [if_neg ho, if_pos hle]) hS (by rw [if_neg ho, if_neg ho, two, if_pos hle]; exact ⟨_, _, hPd, (hfa.st hkd (fun _ _ z => z)), (hB.st hkd (fun _ _ z => z))⟩) (by omega) (by omega) dX1_put_102
    · skip
      have hle : ¬ u.length ≤ 60 := fun z => c_2 ((nI_leI (by omega) (by omega)).mpr z)
      refine lv_iconst (v := nI 0) hx hb dX1_put_67 (by decide) ?_
      have hS : va_S (Ad d s.heap.size) s.heap s.heap [] := va_S.rf
      exact z_QJ hF hr hlk (rfl) (by rw [if_neg ho, if_neg hle]) hS (by rw [if_neg ho, if_neg ho, two, if_neg hle]; exact hX0) (by omega) (by omega) dX1_put_68
  · skip
    have ho : od x = 0 := (nI_z (by omega)).mp c_1
    have hT := hfa.1
    have h64 := hT.len
    have hXw := hfa.nw
    refine lv_aload_n hx hb dX1_put_6 rfl (lv_at hl 0 rfl) ?_
    refine va_get (D := E.1) (cl := vwCl) (ci := 2) (v := .ref fa) (C := RX1) (T := TX1) (N := 2) hx hb hF.2.2.2.2 in_X1 hF.2.2.2.1 hE.1 hP 0 rfl rfl 0 (by decide) (hF.2.2.2.2 _ q25) (fun _ h9 => h9) rfl dX1_put_7 ?_
    refine tI (v := nI t.length) (uV 0 (rest := []) hF hE hS (fun _ z => absurd z id) (m_len l E s.heap.size fa t) (lw_V q37 q38 q39 q4 q40) (hfa.recv hE) hfa.no hl.1 rfl dX1_put_10 ⟨by show _ ≤ 4; omega, by show _ ≤ 308; omega⟩) ?_
    refine lv_bipush (v := nI 60) hx hb dX1_put_13 (by decide) ?_
    refine lv_icmp_le (tgt := 20) hx hb dX1_put_15 (by decide) (fun c_9 => ?_) (fun c_9 => ?_)
    · skip
      have hle : t.length ≤ 60 := (nI_leI (by omega) (by omega)).mp c_9
      have hT2 := two_tx (y := y) (z := z) hT hle
      have hlen : (t ++ [sg y, sg z]).length = t.length + 1 + 1 := by rw [List.length_append]; rfl
      refine lv_aload_n hx hb dX1_put_20 rfl (lv_at hl 0 rfl) ?_
      have hP := p_nil (E := E) (H := s.heap)
      have hD := d_nil (A := Nw s.heap.size)
      refine va_new (D := E.1) (cl := vwCl) (ci := 1) (fs := [.null, .int 0, .int 0, .int 0]) (C := RJ8) (T := TJ8) (N := 4) hx hb hF.2.2.2.2 in_J8 tyJ8 tyJ8_ok hF.2.2.2.1 (hF.2.2.2.2 _ q47) (hF.2.2.2.2 _ q48) (hF.2.2.2.2 _ q14) hE.1 hP hD hS hA rfl (fun j hj => by rcases (show j = 0 ∨ j = 1 ∨ j = 2 ∨ j = 3 by omega) with rfl | rfl | rfl | rfl <;> rfl) (by show _ ≤ 4; omega) (by show _ ≤ 308; omega) dX1_put_21 (fun sb H_10 hP hD hS => ?_)
      have hP : va_P E.1 vwCl [(sb, .inr (1, [.null, .int 0, .int 0, .int 0]))] H_10 := hP
      have hD : va_D (Nw s.heap.size) [(sb, .inr (1, [.null, .int 0, .int 0, .int 0]))] := hD
      have hPd := p_at hP0 hS (fun k q h z => absurd (hP0 k q h).lt (Nat.not_lt.mpr z))
      refine lv_dup hx hb dX1_put_24 rfl ?_
      refine lv_aload_n hx hb dX1_put_25 rfl (lv_at hl 0 rfl) ?_
      have hPP := hP
      have hP := hPd
      refine va_get (D := E.1) (cl := vwCl) (ci := 2) (v := .ref fa) (C := RX1) (T := TX1) (N := 2) hx hb hF.2.2.2.2 in_X1 hF.2.2.2.1 hE.1 hP 0 rfl rfl 0 (by decide) (hF.2.2.2.2 _ q25) (fun _ h9 => h9) rfl dX1_put_26 ?_
      have hP := hPP
      refine tQW (uI 1 (rest := [.ref sb, .ref d]) hF hE hS (adA hD hS hA 0 rfl) (m_J8_ini l E H_10.size sb fa t) q14 q49 q50 q51 ⟨hP, hXw.at hS (adA hD hS hA 0 rfl)⟩ hl.1 rfl dX1_put_29 ⟨by show _ ≤ 4; omega, by show _ ≤ 308; omega⟩) hS (adA hD hS hA 0 rfl) (fun H_11 locs_11 hB hz_11 hk_11 hSn => ?_)
      obtain ⟨bv, g1, hP1, hD1, hg1, hf1⟩ := hB
      obtain ⟨hP, hD⟩ := j_setN hP hD 0 rfl hk_11 (fun q z => hA q (Nat.le_trans hS.1 z)) hP1 hD1
      have hS := hSn
      have hP : va_P E.1 vwCl [(sb, .inr (1, [.ref bv, .int 0, .int 0, .int (nI t.length)])), (bv, .inl (eB E, (t.length + 16), .inl g1))] H_11 := hP
      have hD : va_D (Nw s.heap.size) [(sb, .inr (1, [.ref bv, .int 0, .int 0, .int (nI t.length)])), (bv, .inl (eB E, (t.length + 16), .inl g1))] := hD
      have hne : sb ≠ bv := d_ne hD 0 1 rfl rfl (by decide)
      refine lv_iload_n hx hb dX1_put_32 rfl (lv_at hl 2 rfl) ?_
      refine tI (v := nI (sg y)) (uS 1 (rest := [.ref sb, .ref d]) hF hE hS (fun _ z => absurd z id) (m_X1_sign l E H_11.size y) (lw_S q195 q196 q1 q197) trivial hl.1 rfl dX1_put_33 ⟨by show _ ≤ 4; omega, by show _ ≤ 308; omega⟩) ?_
      refine tQR (uV 1 (rest := [.ref d]) hF hE hS (a2A hD hS hA 0 1 rfl rfl) (m_J8_apc l E H_11.size sb bv (t.length) (t.length + 16) (g1) (sg y) hcy hne (by omega) (by omega)) (lw_V q199 q200 q201 q14 q202) (va_recv hE.1 hP (ci := 1) (q0 := 0) rfl rfl) hP hl.1 rfl dX1_put_36 ⟨by show _ ≤ 4; omega, by show _ ≤ 308; omega⟩) hS (a2A hD hS hA 0 1 rfl rfl) (fun r2 H_12 locs_12 hB hz_12 hk_12 hSn => ?_)
      obtain ⟨hr2, hg1_⟩ := hB
      rw [hr2]
      obtain ⟨hP, hD⟩ := j_set2 hP hD 0 1 rfl rfl (by decide) hk_12 hg1_
      have hS := hSn
      have hP : va_P E.1 vwCl [(sb, .inr (1, [.ref bv, .int 0, .int 0, .int (nI (t.length + 1))])), (bv, .inl (eB E, (t.length + 16), .inl (upd g1 t.length (nI (sg y)))))] H_12 := hP
      have hD : va_D (Nw s.heap.size) [(sb, .inr (1, [.ref bv, .int 0, .int 0, .int (nI (t.length + 1))])), (bv, .inl (eB E, (t.length + 16), .inl (upd g1 t.length (nI (sg y)))))] := hD
      refine lv_iload_n hx hb dX1_put_39 rfl (lv_at hl 3 rfl) ?_
      refine tI (v := nI (sg z)) (uS 1 (rest := [.ref sb, .ref d]) hF hE hS (fun _ z => absurd z id) (m_X1_sign l E H_12.size z) (lw_S q195 q196 q1 q197) trivial hl.1 rfl dX1_put_40 ⟨by show _ ≤ 4; omega, by show _ ≤ 308; omega⟩) ?_
      refine tQR (uV 1 (rest := [.ref d]) hF hE hS (a2A hD hS hA 0 1 rfl rfl) (m_J8_apc l E H_12.size sb bv (t.length + 1) (t.length + 16) (upd g1 t.length (nI (sg y))) (sg z) hcz hne (by omega) (by omega)) (lw_V q199 q200 q201 q14 q202) (va_recv hE.1 hP (ci := 1) (q0 := 0) rfl rfl) hP hl.1 rfl dX1_put_43 ⟨by show _ ≤ 4; omega, by show _ ≤ 308; omega⟩) hS (a2A hD hS hA 0 1 rfl rfl) (fun r2 H_13 locs_13 hB hz_13 hk_13 hSn => ?_)
      obtain ⟨hr2, hg1_⟩ := hB
      rw [hr2]
      obtain ⟨hP, hD⟩ := j_set2 hP hD 0 1 rfl rfl (by decide) hk_13 hg1_
      have hS := hSn
      have hP : va_P E.1 vwCl [(sb, .inr (1, [.ref bv, .int 0, .int 0, .int (nI (t.length + 1 + 1))])), (bv, .inl (eB E, (t.length + 16), .inl (upd (upd g1 t.length (nI (sg y))) (t.length + 1) (nI (sg z)))))] H_13 := hP
      have hD : va_D (Nw s.heap.size) [(sb, .inr (1, [.ref bv, .int 0, .int 0, .int (nI (t.length + 1 + 1))])), (bv, .inl (eB E, (t.length + 16), .inl (upd (upd g1 t.length (nI (sg y))) (t.length + 1) (nI (sg z)))))] := hD
      have hQ : va_P E.1 vwCl (sbW E sb bv (t ++ [sg y, sg z]).length (t.length + 16) (upd (upd g1 t.length (nI (sg y))) (t.length + 1) (nI (sg z)))) H_13 := by rw [hlen]; exact hP
      refine tQR (uV 0 (rest := [.ref d]) hF hE hS (fun q z => hA q (Nat.le_trans hS.1 z)) (m_J8_toS l E H_13.size sb bv (t.length + 16) _ (t ++ [sg y, sg z]) hT2 (by omega) (by omega) (two_getD hg1) (sb_fitU (sb_fitU hf1 (c_fb _ hcy)) (c_fb _ hcz)) (Eqd d) (fun q z => by rw [z]; exact Nat.lt_of_lt_of_le hd0 hS.1)) (lw_V q221 q222 q223 q14 q224) (va_recv hE.1 hP (ci := 1) (q0 := 0) rfl rfl) hQ hl.1 rfl dX1_put_46 ⟨by show _ ≤ 4; omega, by show _ ≤ 308; omega⟩) hS (fun q z => hA q (Nat.le_trans hS.1 z)) (fun r1 H_14 locs_14 hB hz_14 hk_14 hSn => ?_)
      have hS := hSn
      have hPd : va_P E.1 vwCl [(d, .inr (2, [.ref fa, .ref fb]))] H_14 := p_at hP0 hS (fun k q h z => absurd (hP0 k q h).lt (Nat.not_lt.mpr z))
      have hfb : Str E (Eqd d) H_14 fb u := hfb.st hS.2.1 (fun _ hq z => absurd hq (Nat.not_lt.mpr z))
      refine r_putd (r := r1) hF hE hS hPd 0 (by decide) q25 rfl rfl (by decide +kernel) dX1_put_49 (fun H_15 locs_15 hPd hS hkd => ?_)
      refine lv_goto (tgt := 101) hx hb dX1_put_52 (by decide) ?_
      refine lv_iconst (v := nI 1) hx hb dX1_put_101 (by decide) ?_
      exact z_QJ hF hr hlk (rfl) (by rw [if_pos ho, if_pos hle]) hS (by rw [if_pos ho, if_pos ho, two, if_pos hle]; exact ⟨_, _, hPd, (hB.st hkd (fun _ _ z => z)), (hfb.st hkd (fun _ _ z => z))⟩) (by omega) (by omega) dX1_put_102
    · skip
      have hle : ¬ t.length ≤ 60 := fun z => c_9 ((nI_leI (by omega) (by omega)).mpr z)
      refine lv_iconst (v := nI 0) hx hb dX1_put_18 (by decide) ?_
      have hS : va_S (Ad d s.heap.size) s.heap s.heap [] := va_S.rf
      exact z_QJ hF hr hlk (rfl) (by rw [if_pos ho, if_neg hle]) hS (by rw [if_pos ho, if_pos ho, two, if_neg hle]; exact hX0) (by omega) (by omega) dX1_put_19
end
section
/-! the law's own small methods -/
set_option maxRecDepth 100000
/-- what stands at the script's place k -/
def cel (L : Nat) (xs : Nat → Int32) (k : Nat) : Int32 := if k < L then xs k else 0
def PcX (av : List Value) (sz b L : Nat) (xs : Nat → Int32) : Array Value → State → Prop := va_Pc av (fun U => U.heap.size = sz ∧ va_X b L xs U U.heap)
theorem PcX.blind {av : List Value} {sz b L : Nat} {xs : Nat → Int32} : FrameBlind (PcX av sz b L xs) := fun a U g mk h => ⟨h.1, h.2.1, va_X.moved (u := U) (U := U.calling g mk a) (Vm.Alike.refl U.vm) h.2.2⟩
theorem one_tx {t : List Nat} {c : Nat} (h : Tx t) (hl : t.length ≤ 63) (hc : c < 128) : Tx (t ++ [c]) :=
  ⟨by rw [List.length_append]; show t.length + 1 ≤ 64; omega, fun d hd => by
    rcases List.mem_append.mp hd with g | g
    · exact h.2 d g
    · rw [List.mem_singleton.mp g]; exact hc⟩

set_option maxHeartbeats 4000000 in
/-- cell -/
theorem m_cell (l : Launch) (sz b L : Nat) (xs : Nat → Int32) (hL : L ≤ 96) (k : Nat) (hk : k < 96) : Met l yX0_cell (ws_ yX0_cell cX0_cell 2 (some .int)) ({ frames := 0, cells := 0, slots := 0, locals := 0 }) (PcX [.ref b, .int (nI k)] sz b L xs) (QI (cel L xs k)) 0 0 (No) := by
  refine Met.ofW (cc := cX0_cell) (maxL := 2) (ret := some .int) (by decide) rfl ?_
  intro pp ee s mm args bw me cd s₁ B hml hv
  obtain ⟨rfl, hsz, hX⟩ := hv
  have hts := atoms_spec (ws := ws_ yX0_cell cX0_cell 2 (some .int)) B.pre
  have hts : ∀ w ∈ lw_all, w.before _ s = true := fun w h => hts w (List.mem_cons_of_mem _ h)
  have hown : s.vm.findClass RX0 = some mm.cls := findClass_of_methodNamed B.named
  have hF : CallFix pp mm cd cX0_cell 2 s ([.ref b, .int (nI k)] : List Value).toArray lw_all RX0 := ⟨B.exec, B.bytes, hml, hown, hts⟩
  have hr := B.returns
  have hlk := B.notSynchronized
  have hx := hF.1
  have hb := hF.2.1
  have hl := lv_entry ([.ref b, .int (nI k)]) (n := 2) (Nat.le_of_ble_eq_true rfl)
  rw [lg_entry_eq]
  generalize (lg_sl ([.ref b, .int (nI k)]) ++ List.replicate (2 - (lg_sl ([.ref b, .int (nI k)])).length) Slot.unset).toArray = ls at hl ⊢
  have hl : lv_has ls 2 [(0, .ref b), (1, .int (nI k))] := hl
  have hS : va_S (No) s.heap s.heap [] := va_S.rf
  have hbl : b < s.heap.size := by
    obtain ⟨scr, h1, -⟩ := hX
    exact (Array.getElem?_eq_some_iff.mp h1).1
  refine lv_iload_n hx hb dX0_cell_0 rfl (lv_at hl 1 rfl) ?_
  refine lv_aload_n hx hb dX0_cell_1 rfl (lv_at hl 0 rfl) ?_
  refine va_slen hx hb hX hbl (fun z => z) hS dX0_cell_2 ?_
  refine lv_icmp_ge (tgt := 18) hx hb dX0_cell_3 (by decide) (fun c_1 => ?_) (fun c_1 => ?_)
  · skip
    have hkl : L ≤ k := (nI_leI (by omega) (by omega)).mp c_1
    refine lv_iconst (v := nI 0) hx hb dX0_cell_18 (by decide) ?_
    exact z_I hF hr hlk (rfl) (by rw [cel, if_neg (by omega)]; rfl) dX0_cell_19
  · skip
    have hkl : k < L := Nat.not_le.mp (fun z => c_1 ((nI_leI (by omega) (by omega)).mpr z))
    refine lv_iload_n hx hb dX0_cell_6 rfl (lv_at hl 1 rfl) ?_
    refine lv_bipush (v := nI 96) hx hb dX0_cell_7 (by decide) ?_
    refine lv_icmp_ge (tgt := 18) hx hb dX0_cell_9 (by decide) (fun c_2 => absurd c_2 (fun z => absurd ((nI_leI (by omega) (by omega)).mp z) (by omega))) (fun c_2 => ?_)
    refine lv_aload_n hx hb dX0_cell_12 rfl (lv_at hl 0 rfl) ?_
    refine lv_iload_n hx hb dX0_cell_13 rfl (lv_at hl 1 rfl) ?_
    refine va_sld hx hb hX hbl (fun z => z) hS (vp_in_nI hkl (by omega)) dX0_cell_14 ?_
    refine w_to (cel L xs k) (by rw [nI_clamp (by omega), cel, if_pos hkl]) ?_
    refine lv_goto (tgt := 19) hx hb dX0_cell_15 (by decide) ?_
    exact z_I hF hr hlk (rfl) rfl dX0_cell_19
set_option maxHeartbeats 4000000 in
/-- more -/
theorem m_more (l : Launch) (E : EvT) (sz : Nat) (a : Nat) (t : List Nat) (hT : Tx t) (c : Nat) (hc : c < 128) (hl63 : t.length ≤ 63) (N : Nat → Prop) (hN : ∀ q, N q → q < sz) : Met l yX0_more (ws_ yX0_more cX0_more 4 (some (.array .int))) ({ frames := 0, cells := 1, slots := 100, locals := 0 }) (PcE [.ref a, .int (nI c)] E (Nw sz) sz (fun H => RA (eI E) No H a t.length (tb t))) (QR (fun r1 H1 => RA (eI E) N H1 r1 (t ++ [c]).length (tb (t ++ [c]))) (Nw sz)) 1 100 (Nw sz) := by
  refine ofE RX0 rfl (by decide) (Nat.le_of_ble_eq_true rfl) ?_
  intro pp ee s mm bw me cd ls hF hr hlk hnm hsz hE hX hl
  subst hsz
  have hx := hF.1
  have hb := hF.2.1
  have hS : va_S (Nw s.heap.size) s.heap s.heap [] := va_S.rf
  have hl : lv_has ls 4 [(0, .ref a), (1, .int (nI c))] := hl
  have hA : ∀ q, s.heap.size ≤ q → (Nw s.heap.size) q := fun _ h => h
  have hR := hX.nw
  have hP := p_nil (E := E) (H := s.heap)
  have hD := d_nil (A := Nw s.heap.size)
  refine lv_aload_n hx hb dX0_more_0 rfl (lv_at hl 0 rfl) ?_
  refine r_len hF hE 2 rfl (hR.at hS (fun _ z => z)) dX0_more_1 ?_
  refine lv_iconst (v := nI 1) hx hb dX0_more_2 (by decide) ?_
  refine lv_iadd hx hb dX0_more_3 ?_
  refine w_to (nI (t.length + 1)) (nI_add _ _) ?_
  refine r_new (cX := eI E) (atype := .int) hF hE q441 (hE.1.2 2 _ rfl).2 rfl hP hD hS hA (N' := (t.length + 1)) (by omega) (by decide) (by show _ ≤ 1; omega) (by show _ ≤ 100; omega) dX0_more_4 (fun q H_1 hq_q hP hD hS hz_1 hk_1 => ?_)
  have hP : va_P E.1 vwCl [(q, .inl (eI E, (t.length + 1), .inl (fun _ => 0)))] H_1 := hP
  have hD : va_D (Nw s.heap.size) [(q, .inl (eI E, (t.length + 1), .inl (fun _ => 0)))] := hD
  refine lv_astore_n (lv' := [(2, .ref q), (0, .ref a), (1, .int (nI c))]) hx hb dX0_more_6 rfl hl (by decide) rfl (fun ls hl => ?_)
  refine lv_iconst (v := nI 0) hx hb dX0_more_7 (by decide) ?_
  refine lv_istore_n (lv' := [(3, .int (nI 0)), (2, .ref q), (0, .ref a), (1, .int (nI c))]) hx hb dX0_more_8 rfl hl (by decide) rfl (fun ls hl => ?_)
  have loop : ∀ (n k : Nat) (g : Nat → Int32) (H : Heap) (locs : List Loc) (ls : Array Slot), (k + n = t.length) → (va_P E.1 vwCl [(q, .inl (eI E, (t.length + 1), .inl g))] H) → (va_D (Nw s.heap.size) [(q, .inl (eI E, (t.length + 1), .inl g))]) → (va_S (Nw s.heap.size) s.heap H locs) → (∀ j, j < k → g j = tb t j) → lv_has ls 4 [(3, .int (nI k)), (2, .ref q), (0, .ref a), (1, .int (nI c))] → W pp l ee ({ frames := 0, cells := 1, slots := 100, locals := 0 } : Room) s mm ([.ref a, .int (nI c)] : List Value).toArray bw me cd H locs (0 + 1) (0 + (t.length + 1)) (MQ bw (QR (fun r1 H1 => RA (eI E) N H1 r1 (t ++ [c]).length (tb (t ++ [c]))) (Nw s.heap.size)) ([.ref a, .int (nI c)] : List Value).toArray s 1 100 (Nw s.heap.size)) (F0 mm 9 ls []) := by
    intro n
    induction n with
    | zero =>
      intro k g H locs ls hk hP hD hS hg hl
      refine lv_iload_n hx hb dX0_more_9 rfl (lv_at hl 0 rfl) ?_
      refine lv_aload_n hx hb dX0_more_10 rfl (lv_at hl 2 rfl) ?_
      refine r_len hF hE 2 rfl (hR.at hS (fun _ z => z)) dX0_more_11 ?_
      refine lv_icmp_ge (tgt := 27) hx hb dX0_more_12 (by decide) (fun c_2 => ?_) (fun c_2 => absurd ((nI_leI (by omega) (by omega)).mpr (by omega)) c_2)
      refine lv_aload_n hx hb dX0_more_27 rfl (lv_at hl 1 rfl) ?_
      refine lv_aload_n hx hb dX0_more_28 rfl (lv_at hl 2 rfl) ?_
      refine r_len hF hE 2 rfl (hR.at hS (fun _ z => z)) dX0_more_29 ?_
      refine lv_iload_n hx hb dX0_more_30 rfl (lv_at hl 3 rfl) ?_
      refine r_ist hF hE hP hD hS 0 rfl (j := t.length) (by omega) (by omega) dX0_more_31 (fun H_3 locs_3 hP hD hS => ?_)
      have hP : va_P E.1 vwCl [(q, .inl (eI E, (t.length + 1), .inl (upd g t.length (nI c))))] H_3 := hP
      have hD : va_D (Nw s.heap.size) [(q, .inl (eI E, (t.length + 1), .inl (upd g t.length (nI c))))] := hD
      refine lv_aload_n hx hb dX0_more_32 rfl (lv_at hl 1 rfl) ?_
      have hlen : (t ++ [c]).length = t.length + 1 := by rw [List.length_append]; rfl
      exact z_QR hF hr hlk (Or.inr ⟨_, rfl⟩) hS (by
          rw [hlen]
          refine (RA.of hP 0 rfl (fun z => absurd (hN _ z) (Nat.not_lt.mpr (d_in hD 0 rfl)))).congr (fun j hj => ?_)
          unfold tb
          by_cases z : j = t.length
          · rw [z, pk_us, show t.length = t.length + 0 from rfl, getD_app_hi]; rfl
          · rw [pk_un z, getD_app_lo (by omega)]; exact hg j (by omega)) (by omega) (by omega) dX0_more_33
    | succ n ih =>
      intro k g H locs ls hk hP hD hS hg hl
      refine lv_iload_n hx hb dX0_more_9 rfl (lv_at hl 0 rfl) ?_
      refine lv_aload_n hx hb dX0_more_10 rfl (lv_at hl 2 rfl) ?_
      refine r_len hF hE 2 rfl (hR.at hS (fun _ z => z)) dX0_more_11 ?_
      refine lv_icmp_ge (tgt := 27) hx hb dX0_more_12 (by decide) (fun c_4 => absurd c_4 (fun z => absurd ((nI_leI (by omega) (by omega)).mp z) (by omega))) (fun c_4 => ?_)
      refine lv_aload_n hx hb dX0_more_15 rfl (lv_at hl 1 rfl) ?_
      refine lv_iload_n hx hb dX0_more_16 rfl (lv_at hl 0 rfl) ?_
      refine lv_aload_n hx hb dX0_more_17 rfl (lv_at hl 2 rfl) ?_
      refine lv_iload_n hx hb dX0_more_18 rfl (lv_at hl 0 rfl) ?_
      refine r_ild hF hE (hR.at hS (fun _ z => z)) (by omega) (by omega) dX0_more_19 ?_
      refine r_ist hF hE hP hD hS 0 rfl (j := k) (by omega) (by omega) dX0_more_20 (fun H_5 locs_5 hP hD hS => ?_)
      have hP : va_P E.1 vwCl [(q, .inl (eI E, (t.length + 1), .inl (upd g k (tb t k))))] H_5 := hP
      have hD : va_D (Nw s.heap.size) [(q, .inl (eI E, (t.length + 1), .inl (upd g k (tb t k))))] := hD
      refine lv_iinc (v := nI (k + 1)) (lv' := [(3, .int (nI (k + 1))), (2, .ref q), (0, .ref a), (1, .int (nI c))]) hx hb dX0_more_21 hl (k := 0) rfl (nI_add k 1) (by decide) rfl (fun ls hl => ?_)
      refine lv_goto (tgt := 9) hx hb dX0_more_24 (by decide) ?_
      exact ih (k + 1) _ _ _ ls (by omega) hP hD hS (upd_lt (P := fun j v => v = tb t j) hg rfl) (lv_sub hl [0, 1, 2, 3] rfl)
  exact loop t.length 0 (fun _ => 0) _ _ ls (by omega) hP hD hS (fun j hj => absurd hj (Nat.not_lt_zero j)) (lv_sub hl [0, 1, 2, 3] rfl)
set_option maxHeartbeats 4000000 in
/-- padded -/
theorem m_pS (l : Launch) (E : EvT) (sz : Nat) (a : Nat) (t : List Nat) (hT : Tx t) (w c : Nat) (hw : w ≤ 64) (N : Nat → Prop) (hN : ∀ q, N q → q < sz) : Met l yX0_padded (ws_ yX0_padded cX0_padded 7 (some (.array .int))) ({ frames := 0, cells := 1, slots := 200, locals := 0 }) (PcE [.ref a, .int (nI w), .int (nI c), .int (nI 1)] E (Nw sz) sz (fun H => RA (eI E) No H a t.length (tb t))) (QR (fun r1 H1 => RA (eI E) N H1 r1 (padS t w c).length (tb (padS t w c))) (Nw sz)) 1 200 (Nw sz) := by
  refine ofE RX0 rfl (by decide) (Nat.le_of_ble_eq_true rfl) ?_
  intro pp ee s mm bw me cd ls hF hr hlk hnm hsz hE hX hl
  subst hsz
  have hx := hF.1
  have hb := hF.2.1
  have hS : va_S (Nw s.heap.size) s.heap s.heap [] := va_S.rf
  have hl : lv_has ls 7 [(0, .ref a), (1, .int (nI w)), (2, .int (nI c)), (3, .int (nI 1))] := hl
  have hA : ∀ q, s.heap.size ≤ q → (Nw s.heap.size) q := fun _ h => h
  have hR := hX.nw
  have h64 := hT.len
  have hlen : (padS t w c).length = t.length + (w - t.length) := by rw [padS_len]; omega
  have tail : ∀ (ls : Array Slot), lv_has ls 7 [(0, .ref a), (1, .int (nI w)), (2, .int (nI c)), (3, .int (nI 1))] → W pp l ee ({ frames := 0, cells := 1, slots := 200, locals := 0 } : Room) s mm ([.ref a, .int (nI w), .int (nI c), .int (nI 1)] : List Value).toArray bw me cd s.heap [] 0 0 (MQ bw (QR (fun r1 H1 => RA (eI E) N H1 r1 (padS t w c).length (tb (padS t w c))) (Nw s.heap.size)) ([.ref a, .int (nI w), .int (nI c), .int (nI 1)] : List Value).toArray s 1 200 (Nw s.heap.size)) (F0 mm 14 ls [.int (nI (w - t.length))]) := by
    intro ls hl
    have hP := p_nil (E := E) (H := s.heap)
    have hD := d_nil (A := Nw s.heap.size)
    refine lv_istore (lv' := [(4, .int (nI (w - t.length))), (0, .ref a), (1, .int (nI w)), (2, .int (nI c)), (3, .int (nI 1))]) hx hb dX0_padded_14 hl (by decide) rfl (fun ls hl => ?_)
    refine lv_aload_n hx hb dX0_padded_16 rfl (lv_at hl 1 rfl) ?_
    refine r_len hF hE 2 rfl (hR.at hS (fun _ z => z)) dX0_padded_17 ?_
    refine lv_iload hx hb dX0_padded_18 (lv_at hl 0 rfl) ?_
    refine lv_iadd hx hb dX0_padded_20 ?_
    refine w_to (nI (t.length + (w - t.length))) (nI_add _ _) ?_
    refine r_new (cX := eI E) (atype := .int) hF hE q441 (hE.1.2 2 _ rfl).2 rfl hP hD hS hA (N' := (t.length + (w - t.length))) (by omega) (by decide) (by show _ ≤ 1; omega) (by show _ ≤ 200; omega) dX0_padded_21 (fun q H_1 hq_q hP hD hS hz_1 hk_1 => ?_)
    have hP : va_P E.1 vwCl [(q, .inl (eI E, (t.length + (w - t.length)), .inl (fun _ => 0)))] H_1 := hP
    have hD : va_D (Nw s.heap.size) [(q, .inl (eI E, (t.length + (w - t.length)), .inl (fun _ => 0)))] := hD
    refine lv_astore (lv' := [(5, .ref q), (4, .int (nI (w - t.length))), (0, .ref a), (1, .int (nI w)), (2, .int (nI c)), (3, .int (nI 1))]) hx hb dX0_padded_23 hl (by decide) rfl (fun ls hl => ?_)
    refine lv_iconst (v := nI 0) hx hb dX0_padded_25 (by decide) ?_
    refine lv_istore (lv' := [(6, .int (nI 0)), (5, .ref q), (4, .int (nI (w - t.length))), (0, .ref a), (1, .int (nI w)), (2, .int (nI c)), (3, .int (nI 1))]) hx hb dX0_padded_26 hl (by decide) rfl (fun ls hl => ?_)
    have loop : ∀ (n k : Nat) (g : Nat → Int32) (H : Heap) (locs : List Loc) (ls : Array Slot), (k + n = t.length + (w - t.length)) → (va_P E.1 vwCl [(q, .inl (eI E, (t.length + (w - t.length)), .inl g))] H) → (va_D (Nw s.heap.size) [(q, .inl (eI E, (t.length + (w - t.length)), .inl g))]) → (va_S (Nw s.heap.size) s.heap H locs) → (∀ j, j < k → g j = tb (padS t w c) j) → lv_has ls 7 [(6, .int (nI k)), (5, .ref q), (4, .int (nI (w - t.length))), (0, .ref a), (1, .int (nI w)), (2, .int (nI c)), (3, .int (nI 1))] → W pp l ee ({ frames := 0, cells := 1, slots := 200, locals := 0 } : Room) s mm ([.ref a, .int (nI w), .int (nI c), .int (nI 1)] : List Value).toArray bw me cd H locs (0 + 1) (0 + (t.length + (w - t.length))) (MQ bw (QR (fun r1 H1 => RA (eI E) N H1 r1 (padS t w c).length (tb (padS t w c))) (Nw s.heap.size)) ([.ref a, .int (nI w), .int (nI c), .int (nI 1)] : List Value).toArray s 1 200 (Nw s.heap.size)) (F0 mm 28 ls []) := by
      intro n
      induction n with
      | zero =>
        intro k g H locs ls hk hP hD hS hg hl
        refine lv_iload hx hb dX0_padded_28 (lv_at hl 0 rfl) ?_
        refine lv_aload hx hb dX0_padded_30 (lv_at hl 1 rfl) ?_
        refine r_len hF hE 2 rfl (RA.of (N := No) hP 0 rfl id) dX0_padded_32 ?_
        refine lv_icmp_ge (tgt := 87) hx hb dX0_padded_33 (by decide) (fun c_2 => ?_) (fun c_2 => absurd ((nI_leI (by omega) (by omega)).mpr (by omega)) c_2)
        refine lv_aload hx hb dX0_padded_87 (lv_at hl 1 rfl) ?_
        exact z_QR hF hr hlk (Or.inr ⟨_, rfl⟩) hS (by rw [hlen]; exact (RA.of hP 0 rfl (fun z => absurd (hN _ z) (Nat.not_lt.mpr (d_in hD 0 rfl)))).congr (fun j hj => hg j (by omega))) (by omega) (by omega) dX0_padded_89
      | succ n ih =>
        intro k g H locs ls hk hP hD hS hg hl
        refine lv_iload hx hb dX0_padded_28 (lv_at hl 0 rfl) ?_
        refine lv_aload hx hb dX0_padded_30 (lv_at hl 1 rfl) ?_
        refine r_len hF hE 2 rfl (RA.of (N := No) hP 0 rfl id) dX0_padded_32 ?_
        refine lv_icmp_ge (tgt := 87) hx hb dX0_padded_33 (by decide) (fun c_3 => absurd c_3 (fun z => absurd ((nI_leI (by omega) (by omega)).mp z) (by omega))) (fun c_3 => ?_)
        refine lv_aload hx hb dX0_padded_36 (lv_at hl 1 rfl) ?_
        refine lv_iload hx hb dX0_padded_38 (lv_at hl 0 rfl) ?_
        refine lv_iload_n hx hb dX0_padded_40 rfl (lv_at hl 6 rfl) ?_
        refine lv_if_eq (tgt := 65) hx hb dX0_padded_41 (by decide) (fun c_4 => absurd c_4 (by decide)) (fun c_4 => ?_)
        refine lv_iload hx hb dX0_padded_44 (lv_at hl 0 rfl) ?_
        refine lv_iload hx hb dX0_padded_46 (lv_at hl 2 rfl) ?_
        refine lv_icmp_ge (tgt := 55) hx hb dX0_padded_48 (by decide) (fun c_5 => ?_) (fun c_5 => ?_)
        · skip
          have hkm : w - t.length ≤ k := (nI_leI (by omega) (by omega)).mp c_5
          refine lv_aload_n hx hb dX0_padded_55 rfl (lv_at hl 3 rfl) ?_
          refine lv_iload hx hb dX0_padded_56 (lv_at hl 0 rfl) ?_
          refine lv_iload hx hb dX0_padded_58 (lv_at hl 2 rfl) ?_
          refine lv_isub hx hb dX0_padded_60 ?_
          refine w_to (nI (k - (w - t.length))) (pk_sub (by omega)) ?_
          refine r_ild hF hE (hR.at hS (fun _ z => z)) (by omega) (by omega) dX0_padded_61 ?_
          refine lv_goto (tgt := 80) hx hb dX0_padded_62 (by decide) ?_
          refine r_ist hF hE hP hD hS 0 rfl (j := k) (by omega) (by omega) dX0_padded_80 (fun H_6 locs_6 hP hD hS => ?_)
          have hP : va_P E.1 vwCl [(q, .inl (eI E, (t.length + (w - t.length)), .inl (upd g k (tb t (k - (w - t.length))))))] H_6 := hP
          have hD : va_D (Nw s.heap.size) [(q, .inl (eI E, (t.length + (w - t.length)), .inl (upd g k (tb t (k - (w - t.length))))))] := hD
          refine lv_iinc (v := nI (k + 1)) (lv' := [(6, .int (nI (k + 1))), (5, .ref q), (4, .int (nI (w - t.length))), (0, .ref a), (1, .int (nI w)), (2, .int (nI c)), (3, .int (nI 1))]) hx hb dX0_padded_81 hl (k := 0) rfl (nI_add k 1) (by decide) rfl (fun ls hl => ?_)
          refine lv_goto (tgt := 28) hx hb dX0_padded_84 (by decide) ?_
          exact ih (k + 1) _ _ _ ls (by omega) hP hD hS (upd_lt (P := fun j v => v = tb (padS t w c) j) hg (by
              obtain ⟨i, rfl⟩ : ∃ i, k = w - t.length + i := ⟨k - (w - t.length), by omega⟩
              unfold tb; rw [padS_hi, Nat.add_sub_cancel_left])) (lv_sub hl [0, 1, 2, 3, 4, 5, 6] rfl)
        · skip
          have hkm : k < w - t.length := Nat.not_le.mp (fun z => c_5 ((nI_leI (by omega) (by omega)).mpr z))
          refine lv_iload_n hx hb dX0_padded_51 rfl (lv_at hl 5 rfl) ?_
          refine lv_goto (tgt := 80) hx hb dX0_padded_52 (by decide) ?_
          refine r_ist hF hE hP hD hS 0 rfl (j := k) (by omega) (by omega) dX0_padded_80 (fun H_7 locs_7 hP hD hS => ?_)
          have hP : va_P E.1 vwCl [(q, .inl (eI E, (t.length + (w - t.length)), .inl (upd g k (nI c))))] H_7 := hP
          have hD : va_D (Nw s.heap.size) [(q, .inl (eI E, (t.length + (w - t.length)), .inl (upd g k (nI c))))] := hD
          refine lv_iinc (v := nI (k + 1)) (lv' := [(6, .int (nI (k + 1))), (5, .ref q), (4, .int (nI (w - t.length))), (0, .ref a), (1, .int (nI w)), (2, .int (nI c)), (3, .int (nI 1))]) hx hb dX0_padded_81 hl (k := 0) rfl (nI_add k 1) (by decide) rfl (fun ls hl => ?_)
          refine lv_goto (tgt := 28) hx hb dX0_padded_84 (by decide) ?_
          exact ih (k + 1) _ _ _ ls (by omega) hP hD hS (upd_lt (P := fun j v => v = tb (padS t w c) j) hg (by unfold tb; rw [padS_lo hkm])) (lv_sub hl [0, 1, 2, 3, 4, 5, 6] rfl)
    exact loop (t.length + (w - t.length)) 0 (fun _ => 0) _ _ ls (by omega) hP hD hS (fun j hj => absurd hj (Nat.not_lt_zero j)) (lv_sub hl [0, 1, 2, 3, 4, 5, 6] rfl)
  refine lv_iload_n hx hb dX0_padded_0 rfl (lv_at hl 1 rfl) ?_
  refine lv_aload_n hx hb dX0_padded_1 rfl (lv_at hl 0 rfl) ?_
  refine r_len hF hE 2 rfl hX dX0_padded_2 ?_
  refine lv_icmp_le (tgt := 13) hx hb dX0_padded_3 (by decide) (fun c_8 => ?_) (fun c_8 => ?_)
  · skip
    have hwt : w ≤ t.length := (nI_leI (by omega) (by omega)).mp c_8
    refine lv_iconst (v := nI 0) hx hb dX0_padded_13 (by decide) ?_
    refine w_to (nI (w - t.length)) (by rw [Nat.sub_eq_zero_of_le hwt]) ?_
    exact tail ls hl
  · skip
    have hwt : t.length < w := Nat.not_le.mp (fun z => c_8 ((nI_leI (by omega) (by omega)).mpr z))
    refine lv_iload_n hx hb dX0_padded_6 rfl (lv_at hl 1 rfl) ?_
    refine lv_aload_n hx hb dX0_padded_7 rfl (lv_at hl 0 rfl) ?_
    refine r_len hF hE 2 rfl hX dX0_padded_8 ?_
    refine lv_isub hx hb dX0_padded_9 ?_
    refine w_to (nI (w - t.length)) (pk_sub (by omega)) ?_
    refine lv_goto (tgt := 14) hx hb dX0_padded_10 (by decide) ?_
    exact tail ls hl
set_option maxHeartbeats 4000000 in
/-- padded -/
theorem m_pE (l : Launch) (E : EvT) (sz : Nat) (a : Nat) (t : List Nat) (hT : Tx t) (w c : Nat) (hw : w ≤ 64) (N : Nat → Prop) (hN : ∀ q, N q → q < sz) : Met l yX0_padded (ws_ yX0_padded cX0_padded 7 (some (.array .int))) ({ frames := 0, cells := 1, slots := 200, locals := 0 }) (PcE [.ref a, .int (nI w), .int (nI c), .int (nI 0)] E (Nw sz) sz (fun H => RA (eI E) No H a t.length (tb t))) (QR (fun r1 H1 => RA (eI E) N H1 r1 (padE t w c).length (tb (padE t w c))) (Nw sz)) 1 200 (Nw sz) := by
  refine ofE RX0 rfl (by decide) (Nat.le_of_ble_eq_true rfl) ?_
  intro pp ee s mm bw me cd ls hF hr hlk hnm hsz hE hX hl
  subst hsz
  have hx := hF.1
  have hb := hF.2.1
  have hS : va_S (Nw s.heap.size) s.heap s.heap [] := va_S.rf
  have hl : lv_has ls 7 [(0, .ref a), (1, .int (nI w)), (2, .int (nI c)), (3, .int (nI 0))] := hl
  have hA : ∀ q, s.heap.size ≤ q → (Nw s.heap.size) q := fun _ h => h
  have hR := hX.nw
  have h64 := hT.len
  have hlen : (padE t w c).length = t.length + (w - t.length) := by rw [padE_len]
  have tail : ∀ (ls : Array Slot), lv_has ls 7 [(0, .ref a), (1, .int (nI w)), (2, .int (nI c)), (3, .int (nI 0))] → W pp l ee ({ frames := 0, cells := 1, slots := 200, locals := 0 } : Room) s mm ([.ref a, .int (nI w), .int (nI c), .int (nI 0)] : List Value).toArray bw me cd s.heap [] 0 0 (MQ bw (QR (fun r1 H1 => RA (eI E) N H1 r1 (padE t w c).length (tb (padE t w c))) (Nw s.heap.size)) ([.ref a, .int (nI w), .int (nI c), .int (nI 0)] : List Value).toArray s 1 200 (Nw s.heap.size)) (F0 mm 14 ls [.int (nI (w - t.length))]) := by
    intro ls hl
    have hP := p_nil (E := E) (H := s.heap)
    have hD := d_nil (A := Nw s.heap.size)
    refine lv_istore (lv' := [(4, .int (nI (w - t.length))), (0, .ref a), (1, .int (nI w)), (2, .int (nI c)), (3, .int (nI 0))]) hx hb dX0_padded_14 hl (by decide) rfl (fun ls hl => ?_)
    refine lv_aload_n hx hb dX0_padded_16 rfl (lv_at hl 1 rfl) ?_
    refine r_len hF hE 2 rfl (hR.at hS (fun _ z => z)) dX0_padded_17 ?_
    refine lv_iload hx hb dX0_padded_18 (lv_at hl 0 rfl) ?_
    refine lv_iadd hx hb dX0_padded_20 ?_
    refine w_to (nI (t.length + (w - t.length))) (nI_add _ _) ?_
    refine r_new (cX := eI E) (atype := .int) hF hE q441 (hE.1.2 2 _ rfl).2 rfl hP hD hS hA (N' := (t.length + (w - t.length))) (by omega) (by decide) (by show _ ≤ 1; omega) (by show _ ≤ 200; omega) dX0_padded_21 (fun q H_1 hq_q hP hD hS hz_1 hk_1 => ?_)
    have hP : va_P E.1 vwCl [(q, .inl (eI E, (t.length + (w - t.length)), .inl (fun _ => 0)))] H_1 := hP
    have hD : va_D (Nw s.heap.size) [(q, .inl (eI E, (t.length + (w - t.length)), .inl (fun _ => 0)))] := hD
    refine lv_astore (lv' := [(5, .ref q), (4, .int (nI (w - t.length))), (0, .ref a), (1, .int (nI w)), (2, .int (nI c)), (3, .int (nI 0))]) hx hb dX0_padded_23 hl (by decide) rfl (fun ls hl => ?_)
    refine lv_iconst (v := nI 0) hx hb dX0_padded_25 (by decide) ?_
    refine lv_istore (lv' := [(6, .int (nI 0)), (5, .ref q), (4, .int (nI (w - t.length))), (0, .ref a), (1, .int (nI w)), (2, .int (nI c)), (3, .int (nI 0))]) hx hb dX0_padded_26 hl (by decide) rfl (fun ls hl => ?_)
    have loop : ∀ (n k : Nat) (g : Nat → Int32) (H : Heap) (locs : List Loc) (ls : Array Slot), (k + n = t.length + (w - t.length)) → (va_P E.1 vwCl [(q, .inl (eI E, (t.length + (w - t.length)), .inl g))] H) → (va_D (Nw s.heap.size) [(q, .inl (eI E, (t.length + (w - t.length)), .inl g))]) → (va_S (Nw s.heap.size) s.heap H locs) → (∀ j, j < k → g j = tb (padE t w c) j) → lv_has ls 7 [(6, .int (nI k)), (5, .ref q), (4, .int (nI (w - t.length))), (0, .ref a), (1, .int (nI w)), (2, .int (nI c)), (3, .int (nI 0))] → W pp l ee ({ frames := 0, cells := 1, slots := 200, locals := 0 } : Room) s mm ([.ref a, .int (nI w), .int (nI c), .int (nI 0)] : List Value).toArray bw me cd H locs (0 + 1) (0 + (t.length + (w - t.length))) (MQ bw (QR (fun r1 H1 => RA (eI E) N H1 r1 (padE t w c).length (tb (padE t w c))) (Nw s.heap.size)) ([.ref a, .int (nI w), .int (nI c), .int (nI 0)] : List Value).toArray s 1 200 (Nw s.heap.size)) (F0 mm 28 ls []) := by
      intro n
      induction n with
      | zero =>
        intro k g H locs ls hk hP hD hS hg hl
        refine lv_iload hx hb dX0_padded_28 (lv_at hl 0 rfl) ?_
        refine lv_aload hx hb dX0_padded_30 (lv_at hl 1 rfl) ?_
        refine r_len hF hE 2 rfl (RA.of (N := No) hP 0 rfl id) dX0_padded_32 ?_
        refine lv_icmp_ge (tgt := 87) hx hb dX0_padded_33 (by decide) (fun c_2 => ?_) (fun c_2 => absurd ((nI_leI (by omega) (by omega)).mpr (by omega)) c_2)
        refine lv_aload hx hb dX0_padded_87 (lv_at hl 1 rfl) ?_
        exact z_QR hF hr hlk (Or.inr ⟨_, rfl⟩) hS (by rw [hlen]; exact (RA.of hP 0 rfl (fun z => absurd (hN _ z) (Nat.not_lt.mpr (d_in hD 0 rfl)))).congr (fun j hj => hg j (by omega))) (by omega) (by omega) dX0_padded_89
      | succ n ih =>
        intro k g H locs ls hk hP hD hS hg hl
        refine lv_iload hx hb dX0_padded_28 (lv_at hl 0 rfl) ?_
        refine lv_aload hx hb dX0_padded_30 (lv_at hl 1 rfl) ?_
        refine r_len hF hE 2 rfl (RA.of (N := No) hP 0 rfl id) dX0_padded_32 ?_
        refine lv_icmp_ge (tgt := 87) hx hb dX0_padded_33 (by decide) (fun c_3 => absurd c_3 (fun z => absurd ((nI_leI (by omega) (by omega)).mp z) (by omega))) (fun c_3 => ?_)
        refine lv_aload hx hb dX0_padded_36 (lv_at hl 1 rfl) ?_
        refine lv_iload hx hb dX0_padded_38 (lv_at hl 0 rfl) ?_
        refine lv_iload_n hx hb dX0_padded_40 rfl (lv_at hl 6 rfl) ?_
        refine lv_if_eq (tgt := 65) hx hb dX0_padded_41 (by decide) (fun c_4 => ?_) (fun c_4 => absurd nI_0 c_4)
        refine lv_iload hx hb dX0_padded_65 (lv_at hl 0 rfl) ?_
        refine lv_aload_n hx hb dX0_padded_67 rfl (lv_at hl 3 rfl) ?_
        refine r_len hF hE 2 rfl (hR.at hS (fun _ z => z)) dX0_padded_68 ?_
        refine lv_icmp_ge (tgt := 79) hx hb dX0_padded_69 (by decide) (fun c_5 => ?_) (fun c_5 => ?_)
        · skip
          have hkm : t.length ≤ k := (nI_leI (by omega) (by omega)).mp c_5
          refine lv_iload_n hx hb dX0_padded_79 rfl (lv_at hl 5 rfl) ?_
          refine r_ist hF hE hP hD hS 0 rfl (j := k) (by omega) (by omega) dX0_padded_80 (fun H_6 locs_6 hP hD hS => ?_)
          have hP : va_P E.1 vwCl [(q, .inl (eI E, (t.length + (w - t.length)), .inl (upd g k (nI c))))] H_6 := hP
          have hD : va_D (Nw s.heap.size) [(q, .inl (eI E, (t.length + (w - t.length)), .inl (upd g k (nI c))))] := hD
          refine lv_iinc (v := nI (k + 1)) (lv' := [(6, .int (nI (k + 1))), (5, .ref q), (4, .int (nI (w - t.length))), (0, .ref a), (1, .int (nI w)), (2, .int (nI c)), (3, .int (nI 0))]) hx hb dX0_padded_81 hl (k := 0) rfl (nI_add k 1) (by decide) rfl (fun ls hl => ?_)
          refine lv_goto (tgt := 28) hx hb dX0_padded_84 (by decide) ?_
          exact ih (k + 1) _ _ _ ls (by omega) hP hD hS (upd_lt (P := fun j v => v = tb (padE t w c) j) hg (by
              obtain ⟨i, rfl⟩ : ∃ i, k = t.length + i := ⟨k - t.length, by omega⟩
              unfold tb; rw [padE_hi (by omega)])) (lv_sub hl [0, 1, 2, 3, 4, 5, 6] rfl)
        · skip
          have hkm : k < t.length := Nat.not_le.mp (fun z => c_5 ((nI_leI (by omega) (by omega)).mpr z))
          refine lv_aload_n hx hb dX0_padded_72 rfl (lv_at hl 3 rfl) ?_
          refine lv_iload hx hb dX0_padded_73 (lv_at hl 0 rfl) ?_
          refine r_ild hF hE (hR.at hS (fun _ z => z)) (by omega) (by omega) dX0_padded_75 ?_
          refine lv_goto (tgt := 80) hx hb dX0_padded_76 (by decide) ?_
          refine r_ist hF hE hP hD hS 0 rfl (j := k) (by omega) (by omega) dX0_padded_80 (fun H_7 locs_7 hP hD hS => ?_)
          have hP : va_P E.1 vwCl [(q, .inl (eI E, (t.length + (w - t.length)), .inl (upd g k (tb t k))))] H_7 := hP
          have hD : va_D (Nw s.heap.size) [(q, .inl (eI E, (t.length + (w - t.length)), .inl (upd g k (tb t k))))] := hD
          refine lv_iinc (v := nI (k + 1)) (lv' := [(6, .int (nI (k + 1))), (5, .ref q), (4, .int (nI (w - t.length))), (0, .ref a), (1, .int (nI w)), (2, .int (nI c)), (3, .int (nI 0))]) hx hb dX0_padded_81 hl (k := 0) rfl (nI_add k 1) (by decide) rfl (fun ls hl => ?_)
          refine lv_goto (tgt := 28) hx hb dX0_padded_84 (by decide) ?_
          exact ih (k + 1) _ _ _ ls (by omega) hP hD hS (upd_lt (P := fun j v => v = tb (padE t w c) j) hg (by unfold tb; rw [padE_lo hkm])) (lv_sub hl [0, 1, 2, 3, 4, 5, 6] rfl)
    exact loop (t.length + (w - t.length)) 0 (fun _ => 0) _ _ ls (by omega) hP hD hS (fun j hj => absurd hj (Nat.not_lt_zero j)) (lv_sub hl [0, 1, 2, 3, 4, 5, 6] rfl)
  refine lv_iload_n hx hb dX0_padded_0 rfl (lv_at hl 1 rfl) ?_
  refine lv_aload_n hx hb dX0_padded_1 rfl (lv_at hl 0 rfl) ?_
  refine r_len hF hE 2 rfl hX dX0_padded_2 ?_
  refine lv_icmp_le (tgt := 13) hx hb dX0_padded_3 (by decide) (fun c_8 => ?_) (fun c_8 => ?_)
  · skip
    have hwt : w ≤ t.length := (nI_leI (by omega) (by omega)).mp c_8
    refine lv_iconst (v := nI 0) hx hb dX0_padded_13 (by decide) ?_
    refine w_to (nI (w - t.length)) (by rw [Nat.sub_eq_zero_of_le hwt]) ?_
    exact tail ls hl
  · skip
    have hwt : t.length < w := Nat.not_le.mp (fun z => c_8 ((nI_leI (by omega) (by omega)).mpr z))
    refine lv_iload_n hx hb dX0_padded_6 rfl (lv_at hl 1 rfl) ?_
    refine lv_aload_n hx hb dX0_padded_7 rfl (lv_at hl 0 rfl) ?_
    refine r_len hF hE 2 rfl hX dX0_padded_8 ?_
    refine lv_isub hx hb dX0_padded_9 ?_
    refine w_to (nI (w - t.length)) (pk_sub (by omega)) ?_
    refine lv_goto (tgt := 14) hx hb dX0_padded_10 (by decide) ?_
    exact tail ls hl
set_option maxHeartbeats 4000000 in
/-- cased -/
theorem m_cHi (l : Launch) (E : EvT) (sz : Nat) (a : Nat) (t : List Nat) (hT : Tx t) (N : Nat → Prop) (hN : ∀ q, N q → q < sz) : Met l yX0_cased (ws_ yX0_cased cX0_cased 4 (some (.array .int))) ({ frames := 1, cells := 1, slots := 100, locals := 20 }) (PcE [.ref a, .int (nI 1)] E (Nw sz) sz (fun H => RA (eI E) No H a t.length (tb t))) (QR (fun r1 H1 => RA (eI E) N H1 r1 (t.map hi).length (tb (t.map hi))) (Nw sz)) 1 100 (Nw sz) := by
  refine ofE RX0 rfl (by decide) (Nat.le_of_ble_eq_true rfl) ?_
  intro pp ee s mm bw me cd ls hF hr hlk hnm hsz hE hX hl
  subst hsz
  have hx := hF.1
  have hb := hF.2.1
  have hS : va_S (Nw s.heap.size) s.heap s.heap [] := va_S.rf
  have hl : lv_has ls 4 [(0, .ref a), (1, .int (nI 1))] := hl
  have hA : ∀ q, s.heap.size ≤ q → (Nw s.heap.size) q := fun _ h => h
  have hR := hX.nw
  have h64 := hT.len
  have hP := p_nil (E := E) (H := s.heap)
  have hD := d_nil (A := Nw s.heap.size)
  refine lv_aload_n hx hb dX0_cased_0 rfl (lv_at hl 0 rfl) ?_
  refine r_len hF hE 2 rfl (hR.at hS (fun _ z => z)) dX0_cased_1 ?_
  refine r_new (cX := eI E) (atype := .int) hF hE q441 (hE.1.2 2 _ rfl).2 rfl hP hD hS hA (N' := t.length) (by omega) (by decide) (by show _ ≤ 1; omega) (by show _ ≤ 100; omega) dX0_cased_2 (fun q H_1 hq_q hP hD hS hz_1 hk_1 => ?_)
  have hP : va_P E.1 vwCl [(q, .inl (eI E, t.length, .inl (fun _ => 0)))] H_1 := hP
  have hD : va_D (Nw s.heap.size) [(q, .inl (eI E, t.length, .inl (fun _ => 0)))] := hD
  refine lv_astore_n (lv' := [(2, .ref q), (0, .ref a), (1, .int (nI 1))]) hx hb dX0_cased_4 rfl hl (by decide) rfl (fun ls hl => ?_)
  refine lv_iconst (v := nI 0) hx hb dX0_cased_5 (by decide) ?_
  refine lv_istore_n (lv' := [(3, .int (nI 0)), (2, .ref q), (0, .ref a), (1, .int (nI 1))]) hx hb dX0_cased_6 rfl hl (by decide) rfl (fun ls hl => ?_)
  have loop : ∀ (n k : Nat) (g : Nat → Int32) (H : Heap) (locs : List Loc) (ls : Array Slot), (k + n = t.length) → (va_P E.1 vwCl [(q, .inl (eI E, t.length, .inl g))] H) → (va_D (Nw s.heap.size) [(q, .inl (eI E, t.length, .inl g))]) → (va_S (Nw s.heap.size) s.heap H locs) → (∀ j, j < k → g j = nI (hi (t.getD j 0))) → lv_has ls 4 [(3, .int (nI k)), (2, .ref q), (0, .ref a), (1, .int (nI 1))] → W pp l ee ({ frames := 1, cells := 1, slots := 100, locals := 20 } : Room) s mm ([.ref a, .int (nI 1)] : List Value).toArray bw me cd H locs (0 + 1) (0 + t.length) (MQ bw (QR (fun r1 H1 => RA (eI E) N H1 r1 (t.map hi).length (tb (t.map hi))) (Nw s.heap.size)) ([.ref a, .int (nI 1)] : List Value).toArray s 1 100 (Nw s.heap.size)) (F0 mm 7 ls []) := by
    intro n
    induction n with
    | zero =>
      intro k g H locs ls hk hP hD hS hg hl
      refine lv_iload_n hx hb dX0_cased_7 rfl (lv_at hl 0 rfl) ?_
      refine lv_aload_n hx hb dX0_cased_8 rfl (lv_at hl 1 rfl) ?_
      refine r_len hF hE 2 rfl (RA.of (N := No) hP 0 rfl id) dX0_cased_9 ?_
      refine lv_icmp_ge (tgt := 41) hx hb dX0_cased_10 (by decide) (fun c_2 => ?_) (fun c_2 => absurd ((nI_leI (by omega) (by omega)).mpr (by omega)) c_2)
      refine lv_aload_n hx hb dX0_cased_41 rfl (lv_at hl 1 rfl) ?_
      exact z_QR hF hr hlk (Or.inr ⟨_, rfl⟩) hS (by
          rw [List.length_map]
          exact (RA.of hP 0 rfl (fun z => absurd (hN _ z) (Nat.not_lt.mpr (d_in hD 0 rfl)))).congr (fun j hj => (hg j (by omega)).trans (by unfold tb; rw [map_getD t hi hi_00]))) (by omega) (by omega) dX0_cased_42
    | succ n ih =>
      intro k g H locs ls hk hP hD hS hg hl
      refine lv_iload_n hx hb dX0_cased_7 rfl (lv_at hl 0 rfl) ?_
      refine lv_aload_n hx hb dX0_cased_8 rfl (lv_at hl 1 rfl) ?_
      refine r_len hF hE 2 rfl (RA.of (N := No) hP 0 rfl id) dX0_cased_9 ?_
      refine lv_icmp_ge (tgt := 41) hx hb dX0_cased_10 (by decide) (fun c_3 => absurd c_3 (fun z => absurd ((nI_leI (by omega) (by omega)).mp z) (by omega))) (fun c_3 => ?_)
      refine lv_aload_n hx hb dX0_cased_13 rfl (lv_at hl 1 rfl) ?_
      refine lv_iload_n hx hb dX0_cased_14 rfl (lv_at hl 0 rfl) ?_
      refine lv_iload_n hx hb dX0_cased_15 rfl (lv_at hl 3 rfl) ?_
      refine lv_if_eq (tgt := 28) hx hb dX0_cased_16 (by decide) (fun c_4 => absurd c_4 (by decide)) (fun c_4 => ?_)
      refine lv_aload_n hx hb dX0_cased_19 rfl (lv_at hl 2 rfl) ?_
      refine lv_iload_n hx hb dX0_cased_20 rfl (lv_at hl 0 rfl) ?_
      refine r_ild hF hE (hR.at hS (fun _ z => z)) (by omega) (by omega) dX0_cased_21 ?_
      refine tI (v := nI (hi (t.getD k 0))) (uS 1 (rest := [.int (nI k), .ref q]) hF hE hS (fun _ z => absurd z id) (m_hi l E H.size (t.getD k 0) (hT.at k)) (lw_S q448 q449 q0 q450) trivial hl.1 rfl dX0_cased_22 ⟨by show _ ≤ 1; omega, by show _ ≤ 100; omega⟩) ?_
      refine lv_goto (tgt := 34) hx hb dX0_cased_25 (by decide) ?_
      refine r_ist hF hE hP hD hS 0 rfl (j := k) (by omega) (by omega) dX0_cased_34 (fun H_5 locs_5 hP hD hS => ?_)
      have hP : va_P E.1 vwCl [(q, .inl (eI E, t.length, .inl (upd g k (nI (hi (t.getD k 0))))))] H_5 := hP
      have hD : va_D (Nw s.heap.size) [(q, .inl (eI E, t.length, .inl (upd g k (nI (hi (t.getD k 0))))))] := hD
      refine lv_iinc (v := nI (k + 1)) (lv' := [(3, .int (nI (k + 1))), (2, .ref q), (0, .ref a), (1, .int (nI 1))]) hx hb dX0_cased_35 hl (k := 0) rfl (nI_add k 1) (by decide) rfl (fun ls hl => ?_)
      refine lv_goto (tgt := 7) hx hb dX0_cased_38 (by decide) ?_
      exact ih (k + 1) _ _ _ ls (by omega) hP hD hS (upd_lt (P := fun j v => v = nI (hi (t.getD j 0))) hg rfl) (lv_sub hl [0, 1, 2, 3] rfl)
  exact loop t.length 0 (fun _ => 0) _ _ ls (by omega) hP hD hS (fun j hj => absurd hj (Nat.not_lt_zero j)) (lv_sub hl [0, 1, 2, 3] rfl)
set_option maxHeartbeats 4000000 in
/-- cased -/
theorem m_cLo (l : Launch) (E : EvT) (sz : Nat) (a : Nat) (t : List Nat) (hT : Tx t) (N : Nat → Prop) (hN : ∀ q, N q → q < sz) : Met l yX0_cased (ws_ yX0_cased cX0_cased 4 (some (.array .int))) ({ frames := 1, cells := 1, slots := 100, locals := 20 }) (PcE [.ref a, .int (nI 0)] E (Nw sz) sz (fun H => RA (eI E) No H a t.length (tb t))) (QR (fun r1 H1 => RA (eI E) N H1 r1 (t.map lo).length (tb (t.map lo))) (Nw sz)) 1 100 (Nw sz) := by
  refine ofE RX0 rfl (by decide) (Nat.le_of_ble_eq_true rfl) ?_
  intro pp ee s mm bw me cd ls hF hr hlk hnm hsz hE hX hl
  subst hsz
  have hx := hF.1
  have hb := hF.2.1
  have hS : va_S (Nw s.heap.size) s.heap s.heap [] := va_S.rf
  have hl : lv_has ls 4 [(0, .ref a), (1, .int (nI 0))] := hl
  have hA : ∀ q, s.heap.size ≤ q → (Nw s.heap.size) q := fun _ h => h
  have hR := hX.nw
  have h64 := hT.len
  have hP := p_nil (E := E) (H := s.heap)
  have hD := d_nil (A := Nw s.heap.size)
  refine lv_aload_n hx hb dX0_cased_0 rfl (lv_at hl 0 rfl) ?_
  refine r_len hF hE 2 rfl (hR.at hS (fun _ z => z)) dX0_cased_1 ?_
  refine r_new (cX := eI E) (atype := .int) hF hE q441 (hE.1.2 2 _ rfl).2 rfl hP hD hS hA (N' := t.length) (by omega) (by decide) (by show _ ≤ 1; omega) (by show _ ≤ 100; omega) dX0_cased_2 (fun q H_1 hq_q hP hD hS hz_1 hk_1 => ?_)
  have hP : va_P E.1 vwCl [(q, .inl (eI E, t.length, .inl (fun _ => 0)))] H_1 := hP
  have hD : va_D (Nw s.heap.size) [(q, .inl (eI E, t.length, .inl (fun _ => 0)))] := hD
  refine lv_astore_n (lv' := [(2, .ref q), (0, .ref a), (1, .int (nI 0))]) hx hb dX0_cased_4 rfl hl (by decide) rfl (fun ls hl => ?_)
  refine lv_iconst (v := nI 0) hx hb dX0_cased_5 (by decide) ?_
  refine lv_istore_n (lv' := [(3, .int (nI 0)), (2, .ref q), (0, .ref a), (1, .int (nI 0))]) hx hb dX0_cased_6 rfl hl (by decide) rfl (fun ls hl => ?_)
  have loop : ∀ (n k : Nat) (g : Nat → Int32) (H : Heap) (locs : List Loc) (ls : Array Slot), (k + n = t.length) → (va_P E.1 vwCl [(q, .inl (eI E, t.length, .inl g))] H) → (va_D (Nw s.heap.size) [(q, .inl (eI E, t.length, .inl g))]) → (va_S (Nw s.heap.size) s.heap H locs) → (∀ j, j < k → g j = nI (lo (t.getD j 0))) → lv_has ls 4 [(3, .int (nI k)), (2, .ref q), (0, .ref a), (1, .int (nI 0))] → W pp l ee ({ frames := 1, cells := 1, slots := 100, locals := 20 } : Room) s mm ([.ref a, .int (nI 0)] : List Value).toArray bw me cd H locs (0 + 1) (0 + t.length) (MQ bw (QR (fun r1 H1 => RA (eI E) N H1 r1 (t.map lo).length (tb (t.map lo))) (Nw s.heap.size)) ([.ref a, .int (nI 0)] : List Value).toArray s 1 100 (Nw s.heap.size)) (F0 mm 7 ls []) := by
    intro n
    induction n with
    | zero =>
      intro k g H locs ls hk hP hD hS hg hl
      refine lv_iload_n hx hb dX0_cased_7 rfl (lv_at hl 0 rfl) ?_
      refine lv_aload_n hx hb dX0_cased_8 rfl (lv_at hl 1 rfl) ?_
      refine r_len hF hE 2 rfl (RA.of (N := No) hP 0 rfl id) dX0_cased_9 ?_
      refine lv_icmp_ge (tgt := 41) hx hb dX0_cased_10 (by decide) (fun c_2 => ?_) (fun c_2 => absurd ((nI_leI (by omega) (by omega)).mpr (by omega)) c_2)
      refine lv_aload_n hx hb dX0_cased_41 rfl (lv_at hl 1 rfl) ?_
      exact z_QR hF hr hlk (Or.inr ⟨_, rfl⟩) hS (by
          rw [List.length_map]
          exact (RA.of hP 0 rfl (fun z => absurd (hN _ z) (Nat.not_lt.mpr (d_in hD 0 rfl)))).congr (fun j hj => (hg j (by omega)).trans (by unfold tb; rw [map_getD t lo lo_00]))) (by omega) (by omega) dX0_cased_42
    | succ n ih =>
      intro k g H locs ls hk hP hD hS hg hl
      refine lv_iload_n hx hb dX0_cased_7 rfl (lv_at hl 0 rfl) ?_
      refine lv_aload_n hx hb dX0_cased_8 rfl (lv_at hl 1 rfl) ?_
      refine r_len hF hE 2 rfl (RA.of (N := No) hP 0 rfl id) dX0_cased_9 ?_
      refine lv_icmp_ge (tgt := 41) hx hb dX0_cased_10 (by decide) (fun c_3 => absurd c_3 (fun z => absurd ((nI_leI (by omega) (by omega)).mp z) (by omega))) (fun c_3 => ?_)
      refine lv_aload_n hx hb dX0_cased_13 rfl (lv_at hl 1 rfl) ?_
      refine lv_iload_n hx hb dX0_cased_14 rfl (lv_at hl 0 rfl) ?_
      refine lv_iload_n hx hb dX0_cased_15 rfl (lv_at hl 3 rfl) ?_
      refine lv_if_eq (tgt := 28) hx hb dX0_cased_16 (by decide) (fun c_4 => ?_) (fun c_4 => absurd nI_0 c_4)
      refine lv_aload_n hx hb dX0_cased_28 rfl (lv_at hl 2 rfl) ?_
      refine lv_iload_n hx hb dX0_cased_29 rfl (lv_at hl 0 rfl) ?_
      refine r_ild hF hE (hR.at hS (fun _ z => z)) (by omega) (by omega) dX0_cased_30 ?_
      refine tI (v := nI (lo (t.getD k 0))) (uS 1 (rest := [.int (nI k), .ref q]) hF hE hS (fun _ z => absurd z id) (m_lo l E H.size (t.getD k 0) (hT.at k)) (lw_S q451 q452 q0 q453) trivial hl.1 rfl dX0_cased_31 ⟨by show _ ≤ 1; omega, by show _ ≤ 100; omega⟩) ?_
      refine r_ist hF hE hP hD hS 0 rfl (j := k) (by omega) (by omega) dX0_cased_34 (fun H_5 locs_5 hP hD hS => ?_)
      have hP : va_P E.1 vwCl [(q, .inl (eI E, t.length, .inl (upd g k (nI (lo (t.getD k 0))))))] H_5 := hP
      have hD : va_D (Nw s.heap.size) [(q, .inl (eI E, t.length, .inl (upd g k (nI (lo (t.getD k 0))))))] := hD
      refine lv_iinc (v := nI (k + 1)) (lv' := [(3, .int (nI (k + 1))), (2, .ref q), (0, .ref a), (1, .int (nI 0))]) hx hb dX0_cased_35 hl (k := 0) rfl (nI_add k 1) (by decide) rfl (fun ls hl => ?_)
      refine lv_goto (tgt := 7) hx hb dX0_cased_38 (by decide) ?_
      exact ih (k + 1) _ _ _ ls (by omega) hP hD hS (upd_lt (P := fun j v => v = nI (lo (t.getD j 0))) hg rfl) (lv_sub hl [0, 1, 2, 3] rfl)
  exact loop t.length 0 (fun _ => 0) _ _ ls (by omega) hP hD hS (fun j hj => absurd hj (Nat.not_lt_zero j)) (lv_sub hl [0, 1, 2, 3] rfl)
end
section
/-! told -/
set_option maxRecDepth 100000
theorem br_nI {k : Nat} (h : k < 2 ^ 31) : br (nI k) = k := by
  unfold br
  rw [pk_tn (by omega)]
  exact Nat.mod_eq_of_lt h
theorem atv_k {t : List Nat} {k : Nat} (h : k < t.length) (h64 : t.length ≤ 64) : atv t (nI k) = nI (t.getD k 0) := by
  unfold atv
  rw [if_neg (by omega), br_nI (by omega), Nat.mod_eq_of_lt h]
theorem alk_le (t u : List Nat) : alk t u ≤ 1 := by unfold alk; split <;> omega

set_option maxHeartbeats 4000000 in
/-- told -/
theorem m_told (l : Launch) (E : EvT) (sz : Nat) (d a b : Nat) (t u : List Nat) (x : Int32) : Met l yX0_told (ws_ yX0_told cX0_told 9 (some .boolean)) ({ frames := 8, cells := 4, slots := 408, locals := 217 }) (PcE [.ref d, .ref a, .ref b, .int (x)] E (Nw sz) sz (fun H => Dsk E H d t u ∧ RA (eI E) No H a t.length (tb t) ∧ RA (eI E) No H b u.length (tb u))) (QJ (nI 1) (fun _ => True) (Nw sz)) 4 408 (Nw sz) := by
  refine ofE RX0 rfl (by decide) (Nat.le_of_ble_eq_true rfl) ?_
  intro pp ee s mm bw me cd ls hF hr hlk hnm hsz hE hX hl
  subst hsz
  have hx := hF.1
  have hb := hF.2.1
  have hS : va_S (Nw s.heap.size) s.heap s.heap [] := va_S.rf
  have hl : lv_has ls 9 [(0, .ref d), (1, .ref a), (2, .ref b), (3, .int (x))] := hl
  have hA : ∀ q, s.heap.size ≤ q → (Nw s.heap.size) q := fun _ h => h
  obtain ⟨hDk, hRa, hRb⟩ := hX
  have hT : Tx t := by obtain ⟨_, _, _, h, _⟩ := hDk; exact h.1
  have hU : Tx u := by obtain ⟨_, _, _, _, h⟩ := hDk; exact h.1
  have h64 := hT.len
  have h65 := hU.len
  have hod := od_lt x
  have t305 : ∀ (H : Heap) (locs : List Loc) (ls : Array Slot), (Dsk E H d t u) → (RA (eI E) No H a t.length (tb t)) → (RA (eI E) No H b u.length (tb u)) → (va_S (Nw s.heap.size) s.heap H locs) → lv_has ls 9 [(0, .ref d), (1, .ref a), (2, .ref b), (3, .int (x))] → W pp l ee ({ frames := 8, cells := 4, slots := 408, locals := 217 } : Room) s mm ([.ref d, .ref a, .ref b, .int (x)] : List Value).toArray bw me cd H locs (0 + 2 + 2) (0 + 204 + 204) (MQ bw (QJ (nI 1) (fun _ => True) (Nw s.heap.size)) ([.ref d, .ref a, .ref b, .int (x)] : List Value).toArray s 4 408 (Nw s.heap.size)) (F0 mm 305 ls []) := by
    intro H locs ls hDk hRa hRb hS hl
    refine lv_aload_n hx hb dX0_told_305 rfl (lv_at hl 1 rfl) ?_
    refine r_len hF hE 2 rfl hRa dX0_told_306 ?_
    refine lv_if_eq (tgt := 329) hx hb dX0_told_307 (by decide) (fun c_1 => ?_) (fun c_1 => ?_)
    · skip
      refine lv_iconst (v := nI 1) hx hb dX0_told_329 (by decide) ?_
      refine lv_goto (tgt := 334) hx hb dX0_told_330 (by decide) ?_
      exact z_QJ hF hr hlk (rfl) rfl hS trivial (by omega) (by omega) dX0_told_334
    · skip
      have h0 : ¬ t.length = 0 := fun z => c_1 (by rw [z]; exact nI_0)
      have hlt : br x % t.length < t.length := Nat.mod_lt _ (by omega)
      refine lv_aload_n hx hb dX0_told_310 rfl (lv_at hl 0 rfl) ?_
      refine lv_bipush (v := (-2)) hx hb dX0_told_311 (by decide) ?_
      refine lv_iload_n hx hb dX0_told_313 rfl (lv_at hl 3 rfl) ?_
      refine tI (v := atv (if od (-2) = 0 then t else u) (x)) (uV 2 (rest := []) hF hE hS (fun _ z => absurd z id) (m_X1_at l E H.size d t u (-2) (x)) (lw_V q557 q558 q559 q1 q560) (hDk.recv hE) hDk hl.1 rfl dX0_told_314 ⟨by show _ ≤ 4; omega, by show _ ≤ 408; omega⟩) ?_
      refine w_to (nI (t.getD (br x % t.length) 0)) (by rw [if_pos (by decide), atv, if_neg h0]) ?_
      refine lv_aload_n hx hb dX0_told_317 rfl (lv_at hl 1 rfl) ?_
      refine lv_iload_n hx hb dX0_told_318 rfl (lv_at hl 3 rfl) ?_
      refine tI (v := nI (br x)) (uS 1 (rest := [.ref a, .int (nI (t.getD (br x % t.length) 0))]) hF hE hS (fun _ z => absurd z id) (m_bare l E H.size x) (lw_S q431 q432 q0 q433) trivial hl.1 rfl dX0_told_319 ⟨by show _ ≤ 4; omega, by show _ ≤ 408; omega⟩) ?_
      refine lv_aload_n hx hb dX0_told_322 rfl (lv_at hl 1 rfl) ?_
      refine r_len hF hE 2 rfl hRa dX0_told_323 ?_
      refine lv_irem hx hb dX0_told_324 (fun z => h0 ((nI_z (by omega)).mp z)) ?_
      refine w_to (nI (br x % t.length)) (pk_rem (br_lt x) (by omega) (by omega)) ?_
      refine r_ild hF hE hRa hlt (by omega) dX0_told_325 ?_
      refine lv_icmp_ne (tgt := 333) hx hb dX0_told_326 (by decide) (fun c_2 => absurd rfl c_2) (fun c_2 => ?_)
      refine lv_iconst (v := nI 1) hx hb dX0_told_329 (by decide) ?_
      refine lv_goto (tgt := 334) hx hb dX0_told_330 (by decide) ?_
      exact z_QJ hF hr hlk (rfl) rfl hS trivial (by omega) (by omega) dX0_told_334
  have loop5 : ∀ (n k : Nat) (H : Heap) (locs : List Loc) (ls : Array Slot), (k + n = u.length) → (Dsk E H d t u) → (RA (eI E) No H a t.length (tb t)) → (RA (eI E) No H b u.length (tb u)) → (va_S (Nw s.heap.size) s.heap H locs) → lv_has ls 9 [(8, .int (nI k)), (0, .ref d), (1, .ref a), (2, .ref b), (3, .int (x))] → W pp l ee ({ frames := 8, cells := 4, slots := 408, locals := 217 } : Room) s mm ([.ref d, .ref a, .ref b, .int (x)] : List Value).toArray bw me cd H locs (0 + 2 + 2) (0 + 204 + 204) (MQ bw (QJ (nI 1) (fun _ => True) (Nw s.heap.size)) ([.ref d, .ref a, .ref b, .int (x)] : List Value).toArray s 4 408 (Nw s.heap.size)) (F0 mm 276 ls []) := by
    intro n
    induction n with
    | zero =>
      intro k H locs ls hk hDk hRa hRb hS hl
      refine lv_iload hx hb dX0_told_276 (lv_at hl 0 rfl) ?_
      refine lv_aload_n hx hb dX0_told_278 rfl (lv_at hl 3 rfl) ?_
      refine r_len hF hE 2 rfl hRb dX0_told_279 ?_
      refine lv_icmp_ge (tgt := 305) hx hb dX0_told_280 (by decide) (fun c_3 => ?_) (fun c_3 => absurd ((nI_leI (by omega) (by omega)).mpr (by omega)) c_3)
      exact t305 H locs ls hDk hRa hRb hS (lv_sub hl [1, 2, 3, 4] rfl)
    | succ n ih =>
      intro k H locs ls hk hDk hRa hRb hS hl
      refine lv_iload hx hb dX0_told_276 (lv_at hl 0 rfl) ?_
      refine lv_aload_n hx hb dX0_told_278 rfl (lv_at hl 3 rfl) ?_
      refine r_len hF hE 2 rfl hRb dX0_told_279 ?_
      refine lv_icmp_ge (tgt := 305) hx hb dX0_told_280 (by decide) (fun c_4 => absurd c_4 (fun z => absurd ((nI_leI (by omega) (by omega)).mp z) (by omega))) (fun c_4 => ?_)
      refine lv_aload_n hx hb dX0_told_283 rfl (lv_at hl 1 rfl) ?_
      refine lv_iconst (v := nI 1) hx hb dX0_told_284 (by decide) ?_
      refine lv_iload hx hb dX0_told_285 (lv_at hl 0 rfl) ?_
      refine tI (v := atv (if od (nI 1) = 0 then t else u) (nI k)) (uV 2 (rest := []) hF hE hS (fun _ z => absurd z id) (m_X1_at l E H.size d t u (nI 1) (nI k)) (lw_V q557 q558 q559 q1 q560) (hDk.recv hE) hDk hl.1 rfl dX0_told_287 ⟨by show _ ≤ 4; omega, by show _ ≤ 408; omega⟩) ?_
      refine w_to (nI (u.getD k 0)) (by rw [if_neg (by decide), atv_k (by omega) (by omega)]) ?_
      refine lv_aload_n hx hb dX0_told_290 rfl (lv_at hl 3 rfl) ?_
      refine lv_iload hx hb dX0_told_291 (lv_at hl 0 rfl) ?_
      refine r_ild hF hE hRb (by omega) (by omega) dX0_told_293 ?_
      refine lv_icmp_eq (tgt := 299) hx hb dX0_told_294 (by decide) (fun c_5 => ?_) (fun c_5 => absurd rfl c_5)
      refine lv_iinc (v := nI (k + 1)) (lv' := [(8, .int (nI (k + 1))), (0, .ref d), (1, .ref a), (2, .ref b), (3, .int (x))]) hx hb dX0_told_299 hl (k := 0) rfl (nI_add k 1) (by decide) rfl (fun ls hl => ?_)
      refine lv_goto (tgt := 276) hx hb dX0_told_302 (by decide) ?_
      exact ih (k + 1) H locs ls (by omega) hDk hRa hRb hS (lv_sub hl [0, 1, 2, 3, 4] rfl)
  have loop4 : ∀ (n k : Nat) (H : Heap) (locs : List Loc) (ls : Array Slot), (k + n = t.length) → (Dsk E H d t u) → (RA (eI E) No H a t.length (tb t)) → (RA (eI E) No H b u.length (tb u)) → (va_S (Nw s.heap.size) s.heap H locs) → lv_has ls 9 [(8, .int (nI k)), (0, .ref d), (1, .ref a), (2, .ref b), (3, .int (x))] → W pp l ee ({ frames := 8, cells := 4, slots := 408, locals := 217 } : Room) s mm ([.ref d, .ref a, .ref b, .int (x)] : List Value).toArray bw me cd H locs (0 + 2 + 2) (0 + 204 + 204) (MQ bw (QJ (nI 1) (fun _ => True) (Nw s.heap.size)) ([.ref d, .ref a, .ref b, .int (x)] : List Value).toArray s 4 408 (Nw s.heap.size)) (F0 mm 244 ls []) := by
    intro n
    induction n with
    | zero =>
      intro k H locs ls hk hDk hRa hRb hS hl
      refine lv_iload hx hb dX0_told_244 (lv_at hl 0 rfl) ?_
      refine lv_aload_n hx hb dX0_told_246 rfl (lv_at hl 2 rfl) ?_
      refine r_len hF hE 2 rfl hRa dX0_told_247 ?_
      refine lv_icmp_ge (tgt := 273) hx hb dX0_told_248 (by decide) (fun c_6 => ?_) (fun c_6 => absurd ((nI_leI (by omega) (by omega)).mpr (by omega)) c_6)
      refine lv_iconst (v := nI 0) hx hb dX0_told_273 (by decide) ?_
      refine lv_istore (lv' := [(8, .int (nI 0)), (0, .ref d), (1, .ref a), (2, .ref b), (3, .int (x))]) hx hb dX0_told_274 hl (by decide) rfl (fun ls hl => ?_)
      exact loop5 u.length 0 H locs ls (by omega) hDk hRa hRb hS (lv_sub hl [0, 1, 2, 3, 4] rfl)
    | succ n ih =>
      intro k H locs ls hk hDk hRa hRb hS hl
      refine lv_iload hx hb dX0_told_244 (lv_at hl 0 rfl) ?_
      refine lv_aload_n hx hb dX0_told_246 rfl (lv_at hl 2 rfl) ?_
      refine r_len hF hE 2 rfl hRa dX0_told_247 ?_
      refine lv_icmp_ge (tgt := 273) hx hb dX0_told_248 (by decide) (fun c_7 => absurd c_7 (fun z => absurd ((nI_leI (by omega) (by omega)).mp z) (by omega))) (fun c_7 => ?_)
      refine lv_aload_n hx hb dX0_told_251 rfl (lv_at hl 1 rfl) ?_
      refine lv_iconst (v := nI 0) hx hb dX0_told_252 (by decide) ?_
      refine lv_iload hx hb dX0_told_253 (lv_at hl 0 rfl) ?_
      refine tI (v := atv (if od (nI 0) = 0 then t else u) (nI k)) (uV 2 (rest := []) hF hE hS (fun _ z => absurd z id) (m_X1_at l E H.size d t u (nI 0) (nI k)) (lw_V q557 q558 q559 q1 q560) (hDk.recv hE) hDk hl.1 rfl dX0_told_255 ⟨by show _ ≤ 4; omega, by show _ ≤ 408; omega⟩) ?_
      refine w_to (nI (t.getD k 0)) (by rw [if_pos (by decide), atv_k (by omega) (by omega)]) ?_
      refine lv_aload_n hx hb dX0_told_258 rfl (lv_at hl 2 rfl) ?_
      refine lv_iload hx hb dX0_told_259 (lv_at hl 0 rfl) ?_
      refine r_ild hF hE hRa (by omega) (by omega) dX0_told_261 ?_
      refine lv_icmp_eq (tgt := 267) hx hb dX0_told_262 (by decide) (fun c_8 => ?_) (fun c_8 => absurd rfl c_8)
      refine lv_iinc (v := nI (k + 1)) (lv' := [(8, .int (nI (k + 1))), (0, .ref d), (1, .ref a), (2, .ref b), (3, .int (x))]) hx hb dX0_told_267 hl (k := 0) rfl (nI_add k 1) (by decide) rfl (fun ls hl => ?_)
      refine lv_goto (tgt := 244) hx hb dX0_told_270 (by decide) ?_
      exact ih (k + 1) H locs ls (by omega) hDk hRa hRb hS (lv_sub hl [0, 1, 2, 3, 4] rfl)
  have t241 : ∀ (H : Heap) (locs : List Loc) (ls : Array Slot), (Dsk E H d t u) → (RA (eI E) No H a t.length (tb t)) → (RA (eI E) No H b u.length (tb u)) → (va_S (Nw s.heap.size) s.heap H locs) → lv_has ls 9 [(0, .ref d), (1, .ref a), (2, .ref b), (3, .int (x))] → W pp l ee ({ frames := 8, cells := 4, slots := 408, locals := 217 } : Room) s mm ([.ref d, .ref a, .ref b, .int (x)] : List Value).toArray bw me cd H locs (0 + 2 + 2) (0 + 204 + 204) (MQ bw (QJ (nI 1) (fun _ => True) (Nw s.heap.size)) ([.ref d, .ref a, .ref b, .int (x)] : List Value).toArray s 4 408 (Nw s.heap.size)) (F0 mm 241 ls []) := by
    intro H locs ls hDk hRa hRb hS hl
    refine lv_iconst (v := nI 0) hx hb dX0_told_241 (by decide) ?_
    refine lv_istore (lv' := [(8, .int (nI 0)), (0, .ref d), (1, .ref a), (2, .ref b), (3, .int (x))]) hx hb dX0_told_242 hl (by decide) rfl (fun ls hl => ?_)
    exact loop4 t.length 0 H locs ls (by omega) hDk hRa hRb hS (lv_sub hl [0, 1, 2, 3, 4] rfl)
  have t224 : ∀ (H : Heap) (locs : List Loc) (ls : Array Slot), (Dsk E H d t u) → (RA (eI E) No H a t.length (tb t)) → (RA (eI E) No H b u.length (tb u)) → (va_S (Nw s.heap.size) s.heap H locs) → lv_has ls 9 [(0, .ref d), (1, .ref a), (2, .ref b), (3, .int (x))] → W pp l ee ({ frames := 8, cells := 4, slots := 408, locals := 217 } : Room) s mm ([.ref d, .ref a, .ref b, .int (x)] : List Value).toArray bw me cd H locs (0 + 2 + 2) (0 + 204 + 204) (MQ bw (QJ (nI 1) (fun _ => True) (Nw s.heap.size)) ([.ref d, .ref a, .ref b, .int (x)] : List Value).toArray s 4 408 (Nw s.heap.size)) (F0 mm 224 ls []) := by
    intro H locs ls hDk hRa hRb hS hl
    refine lv_aload_n hx hb dX0_told_224 rfl (lv_at hl 2 rfl) ?_
    refine r_len hF hE 2 rfl hRb dX0_told_225 ?_
    refine lv_if_ne (tgt := 241) hx hb dX0_told_226 (by decide) (fun c_9 => ?_) (fun c_9 => ?_)
    · skip
      exact t241 H locs ls hDk hRa hRb hS (lv_sub hl [0, 1, 2, 3] rfl)
    · skip
      have h0 : u.length = 0 := (nI_z (by omega)).mp c_9
      refine lv_aload_n hx hb dX0_told_229 rfl (lv_at hl 0 rfl) ?_
      refine lv_iconst (v := nI 1) hx hb dX0_told_230 (by decide) ?_
      refine lv_iload_n hx hb dX0_told_231 rfl (lv_at hl 3 rfl) ?_
      refine tI (v := atv (if od (nI 1) = 0 then t else u) (x)) (uV 2 (rest := []) hF hE hS (fun _ z => absurd z id) (m_X1_at l E H.size d t u (nI 1) (x)) (lw_V q557 q558 q559 q1 q560) (hDk.recv hE) hDk hl.1 rfl dX0_told_232 ⟨by show _ ≤ 4; omega, by show _ ≤ 408; omega⟩) ?_
      refine w_to (-1) (by rw [if_neg (by decide), atv, if_pos h0]) ?_
      refine lv_iconst (v := (-1)) hx hb dX0_told_235 (by decide) ?_
      refine lv_icmp_eq (tgt := 241) hx hb dX0_told_236 (by decide) (fun c_10 => ?_) (fun c_10 => absurd rfl c_10)
      exact t241 H locs ls hDk hRa hRb hS (lv_sub hl [0, 1, 2, 3] rfl)
  have t189 : ∀ (H : Heap) (locs : List Loc) (ls : Array Slot), (Dsk E H d t u) → (RA (eI E) No H a t.length (tb t)) → (RA (eI E) No H b u.length (tb u)) → (va_S (Nw s.heap.size) s.heap H locs) → lv_has ls 9 [(0, .ref d), (1, .ref a), (2, .ref b), (3, .int (x))] → W pp l ee ({ frames := 8, cells := 4, slots := 408, locals := 217 } : Room) s mm ([.ref d, .ref a, .ref b, .int (x)] : List Value).toArray bw me cd H locs (0 + 2 + 2) (0 + 204 + 204) (MQ bw (QJ (nI 1) (fun _ => True) (Nw s.heap.size)) ([.ref d, .ref a, .ref b, .int (x)] : List Value).toArray s 4 408 (Nw s.heap.size)) (F0 mm 189 ls []) := by
    intro H locs ls hDk hRa hRb hS hl
    refine lv_aload_n hx hb dX0_told_189 rfl (lv_at hl 0 rfl) ?_
    refine lv_iconst (v := nI 0) hx hb dX0_told_190 (by decide) ?_
    refine tI (v := nI (if od (nI 0) = 0 then t.length else u.length)) (uV 1 (rest := []) hF hE hS (fun _ z => absurd z id) (m_X1_len l E H.size d t u (nI 0)) (lw_V q553 q554 q555 q1 q556) (hDk.recv hE) hDk hl.1 rfl dX0_told_191 ⟨by show _ ≤ 4; omega, by show _ ≤ 408; omega⟩) ?_
    refine w_to (nI t.length) (by rw [if_pos (by decide)]) ?_
    refine lv_aload_n hx hb dX0_told_194 rfl (lv_at hl 1 rfl) ?_
    refine r_len hF hE 2 rfl hRa dX0_told_195 ?_
    refine lv_icmp_ne (tgt := 239) hx hb dX0_told_196 (by decide) (fun c_11 => absurd rfl c_11) (fun c_11 => ?_)
    refine lv_aload_n hx hb dX0_told_199 rfl (lv_at hl 0 rfl) ?_
    refine lv_iconst (v := (-1)) hx hb dX0_told_200 (by decide) ?_
    refine tI (v := nI (if od (-1) = 0 then t.length else u.length)) (uV 1 (rest := []) hF hE hS (fun _ z => absurd z id) (m_X1_len l E H.size d t u (-1)) (lw_V q553 q554 q555 q1 q556) (hDk.recv hE) hDk hl.1 rfl dX0_told_201 ⟨by show _ ≤ 4; omega, by show _ ≤ 408; omega⟩) ?_
    refine w_to (nI u.length) (by rw [if_neg (by decide)]) ?_
    refine lv_aload_n hx hb dX0_told_204 rfl (lv_at hl 2 rfl) ?_
    refine r_len hF hE 2 rfl hRb dX0_told_205 ?_
    refine lv_icmp_ne (tgt := 239) hx hb dX0_told_206 (by decide) (fun c_12 => absurd rfl c_12) (fun c_12 => ?_)
    refine lv_aload_n hx hb dX0_told_209 rfl (lv_at hl 1 rfl) ?_
    refine r_len hF hE 2 rfl hRa dX0_told_210 ?_
    refine lv_if_ne (tgt := 224) hx hb dX0_told_211 (by decide) (fun c_13 => ?_) (fun c_13 => ?_)
    · skip
      exact t224 H locs ls hDk hRa hRb hS (lv_sub hl [0, 1, 2, 3] rfl)
    · skip
      have h0 : t.length = 0 := (nI_z (by omega)).mp c_13
      refine lv_aload_n hx hb dX0_told_214 rfl (lv_at hl 0 rfl) ?_
      refine lv_iconst (v := nI 0) hx hb dX0_told_215 (by decide) ?_
      refine lv_iload_n hx hb dX0_told_216 rfl (lv_at hl 3 rfl) ?_
      refine tI (v := atv (if od (nI 0) = 0 then t else u) (x)) (uV 2 (rest := []) hF hE hS (fun _ z => absurd z id) (m_X1_at l E H.size d t u (nI 0) (x)) (lw_V q557 q558 q559 q1 q560) (hDk.recv hE) hDk hl.1 rfl dX0_told_217 ⟨by show _ ≤ 4; omega, by show _ ≤ 408; omega⟩) ?_
      refine w_to (-1) (by rw [if_pos (by decide), atv, if_pos h0]) ?_
      refine lv_iconst (v := (-1)) hx hb dX0_told_220 (by decide) ?_
      refine lv_icmp_ne (tgt := 239) hx hb dX0_told_221 (by decide) (fun c_14 => absurd rfl c_14) (fun c_14 => ?_)
      exact t224 H locs ls hDk hRa hRb hS (lv_sub hl [0, 1, 2, 3] rfl)
  have t139 : ∀ (ls : Array Slot), lv_has ls 9 [(7, .int (nI (alk t u))), (5, .int (nI (pfx t u))), (6, .int (nI (sfx t u))), (0, .ref d), (1, .ref a), (2, .ref b), (3, .int (x))] → W pp l ee ({ frames := 8, cells := 4, slots := 408, locals := 217 } : Room) s mm ([.ref d, .ref a, .ref b, .int (x)] : List Value).toArray bw me cd s.heap [] 0 0 (MQ bw (QJ (nI 1) (fun _ => True) (Nw s.heap.size)) ([.ref d, .ref a, .ref b, .int (x)] : List Value).toArray s 4 408 (Nw s.heap.size)) (F0 mm 139 ls []) := by
    intro ls hl
    refine lv_aload_n hx hb dX0_told_139 rfl (lv_at hl 3 rfl) ?_
    refine tQJ (uV 0 (rest := []) hF hE hS (fun q z => hA q (Nat.le_trans hS.1 z)) (m_X1_pfx l E s.heap.size d t u) (lw_V q457 q458 q459 q1 q460) (hDk.recv hE) hDk hl.1 rfl dX0_told_140 ⟨by show _ ≤ 4; omega, by show _ ≤ 408; omega⟩) hS (fun q z => hA q (Nat.le_trans hS.1 z)) (fun H_15 locs_15 hB hz_15 hk_15 hSn => ?_)
    have hDk := hDk.keep hk_15
    have hRa := hRa.keep hk_15
    have hRb := hRb.keep hk_15
    have hS := hSn
    refine lv_iload hx hb dX0_told_143 (lv_at hl 1 rfl) ?_
    refine lv_icmp_ne (tgt := 187) hx hb dX0_told_145 (by decide) (fun c_16 => absurd rfl c_16) (fun c_16 => ?_)
    refine lv_aload_n hx hb dX0_told_148 rfl (lv_at hl 3 rfl) ?_
    refine tQJ (uV 0 (rest := []) hF hE hS (fun q z => hA q (Nat.le_trans hS.1 z)) (m_X1_sfx l E H_15.size d t u) (lw_V q546 q547 q548 q1 q549) (hDk.recv hE) hDk hl.1 rfl dX0_told_149 ⟨by show _ ≤ 4; omega, by show _ ≤ 408; omega⟩) hS (fun q z => hA q (Nat.le_trans hS.1 z)) (fun H_17 locs_17 hB hz_17 hk_17 hSn => ?_)
    have hDk := hDk.keep hk_17
    have hRa := hRa.keep hk_17
    have hRb := hRb.keep hk_17
    have hS := hSn
    refine lv_iload hx hb dX0_told_152 (lv_at hl 2 rfl) ?_
    refine lv_icmp_ne (tgt := 187) hx hb dX0_told_154 (by decide) (fun c_18 => absurd rfl c_18) (fun c_18 => ?_)
    refine lv_aload_n hx hb dX0_told_157 rfl (lv_at hl 3 rfl) ?_
    refine tI (v := nI (alk t u)) (uV 0 (rest := []) hF hE hS (fun _ z => absurd z id) (m_X1_alike l E H_17.size d t u) (lw_V q388 q389 q390 q1 q391) (hDk.recv hE) hDk hl.1 rfl dX0_told_158 ⟨by show _ ≤ 4; omega, by show _ ≤ 408; omega⟩) ?_
    refine lv_iload hx hb dX0_told_161 (lv_at hl 0 rfl) ?_
    refine lv_icmp_ne (tgt := 187) hx hb dX0_told_163 (by decide) (fun c_19 => absurd rfl c_19) (fun c_19 => ?_)
    refine lv_aload_n hx hb dX0_told_166 rfl (lv_at hl 3 rfl) ?_
    refine lv_iload_n hx hb dX0_told_167 rfl (lv_at hl 6 rfl) ?_
    refine tI (v := nI (if od (x) = 0 then t.length else u.length)) (uV 1 (rest := []) hF hE hS (fun _ z => absurd z id) (m_X1_len l E H_17.size d t u (x)) (lw_V q553 q554 q555 q1 q556) (hDk.recv hE) hDk hl.1 rfl dX0_told_168 ⟨by show _ ≤ 4; omega, by show _ ≤ 408; omega⟩) ?_
    refine lv_iload_n hx hb dX0_told_171 rfl (lv_at hl 6 rfl) ?_
    refine lv_iconst (v := nI 1) hx hb dX0_told_172 (by decide) ?_
    refine lv_iand hx hb dX0_told_173 ?_
    refine w_to (nI (od x)) (od_and x) ?_
    refine lv_if_ne (tgt := 182) hx hb dX0_told_174 (by decide) (fun c_20 => ?_) (fun c_20 => ?_)
    · skip
      have ho : ¬ od x = 0 := fun z => c_20 (by rw [z]; exact nI_0)
      refine lv_aload_n hx hb dX0_told_182 rfl (lv_at hl 5 rfl) ?_
      refine r_len hF hE 2 rfl hRb dX0_told_183 ?_
      refine lv_icmp_eq (tgt := 189) hx hb dX0_told_184 (by decide) (fun c_21 => ?_) (fun c_21 => absurd (by rw [if_neg ho]) c_21)
      exact t189 H_17 _ ls hDk hRa hRb hS (lv_sub hl [3, 4, 5, 6] rfl)
    · skip
      have ho : od x = 0 := (nI_z (by omega)).mp c_20
      refine lv_aload_n hx hb dX0_told_177 rfl (lv_at hl 4 rfl) ?_
      refine r_len hF hE 2 rfl hRa dX0_told_178 ?_
      refine lv_goto (tgt := 184) hx hb dX0_told_179 (by decide) ?_
      refine lv_icmp_eq (tgt := 189) hx hb dX0_told_184 (by decide) (fun c_22 => ?_) (fun c_22 => absurd (by rw [if_pos ho]) c_22)
      exact t189 H_17 _ ls hDk hRa hRb hS (lv_sub hl [3, 4, 5, 6] rfl)
  have loop3 : ∀ (n k q : Nat) (ls : Array Slot), (k + n = t.length) → ((q = 1 ∧ t.length = u.length ∧ ∀ j, j < k → lo (t.getD j 0) = lo (u.getD j 0)) ∨ (q = 0 ∧ alk t u = 0)) → lv_has ls 9 [(8, .int (nI k)), (7, .int (nI q)), (5, .int (nI (pfx t u))), (6, .int (nI (sfx t u))), (0, .ref d), (1, .ref a), (2, .ref b), (3, .int (x))] → W pp l ee ({ frames := 8, cells := 4, slots := 408, locals := 217 } : Room) s mm ([.ref d, .ref a, .ref b, .int (x)] : List Value).toArray bw me cd s.heap [] 0 0 (MQ bw (QJ (nI 1) (fun _ => True) (Nw s.heap.size)) ([.ref d, .ref a, .ref b, .int (x)] : List Value).toArray s 4 408 (Nw s.heap.size)) (F0 mm 97 ls []) := by
    intro n
    induction n with
    | zero =>
      intro k q ls hk hq hl
      rcases hq with ⟨hq1, hlen, hz⟩ | ⟨hq1, ha⟩
      · skip
        rw [hq1] at hl
        refine lv_iload hx hb dX0_told_97 (lv_at hl 1 rfl) ?_
        refine lv_if_eq (tgt := 139) hx hb dX0_told_99 (by decide) (fun c_23 => absurd c_23 (by decide)) (fun c_23 => ?_)
        refine lv_iload hx hb dX0_told_102 (lv_at hl 0 rfl) ?_
        refine lv_aload_n hx hb dX0_told_104 rfl (lv_at hl 5 rfl) ?_
        refine r_len hF hE 2 rfl hRa dX0_told_105 ?_
        refine lv_icmp_ge (tgt := 139) hx hb dX0_told_106 (by decide) (fun c_24 => ?_) (fun c_24 => absurd ((nI_leI (by omega) (by omega)).mpr (by omega)) c_24)
        have ha : alk t u = 1 := alk_1 hlen (fun j hj => hz j (by omega))
        exact t139 ls (by rw [ha]; exact (lv_sub hl [1, 2, 3, 4, 5, 6, 7] rfl))
      · skip
        rw [hq1] at hl
        refine lv_iload hx hb dX0_told_97 (lv_at hl 1 rfl) ?_
        refine lv_if_eq (tgt := 139) hx hb dX0_told_99 (by decide) (fun c_25 => ?_) (fun c_25 => absurd nI_0 c_25)
        exact t139 ls (by rw [ha]; exact (lv_sub hl [1, 2, 3, 4, 5, 6, 7] rfl))
    | succ n ih =>
      intro k q ls hk hq hl
      rcases hq with ⟨hq1, hlen, hz⟩ | ⟨hq1, ha⟩
      · skip
        rw [hq1] at hl
        refine lv_iload hx hb dX0_told_97 (lv_at hl 1 rfl) ?_
        refine lv_if_eq (tgt := 139) hx hb dX0_told_99 (by decide) (fun c_26 => absurd c_26 (by decide)) (fun c_26 => ?_)
        refine lv_iload hx hb dX0_told_102 (lv_at hl 0 rfl) ?_
        refine lv_aload_n hx hb dX0_told_104 rfl (lv_at hl 5 rfl) ?_
        refine r_len hF hE 2 rfl hRa dX0_told_105 ?_
        refine lv_icmp_ge (tgt := 139) hx hb dX0_told_106 (by decide) (fun c_27 => absurd c_27 (fun z => absurd ((nI_leI (by omega) (by omega)).mp z) (by omega))) (fun c_27 => ?_)
        refine lv_aload_n hx hb dX0_told_109 rfl (lv_at hl 5 rfl) ?_
        refine lv_iload hx hb dX0_told_110 (lv_at hl 0 rfl) ?_
        refine r_ild hF hE hRa (by omega) (by omega) dX0_told_112 ?_
        refine tI (v := nI (lo (t.getD k 0))) (uS 1 (rest := []) hF hE hS (fun _ z => absurd z id) (m_lo l E s.heap.size (t.getD k 0) (hT.at k)) (lw_S q451 q452 q0 q453) trivial hl.1 rfl dX0_told_113 ⟨by show _ ≤ 4; omega, by show _ ≤ 408; omega⟩) ?_
        refine lv_aload_n hx hb dX0_told_116 rfl (lv_at hl 6 rfl) ?_
        refine lv_iload hx hb dX0_told_117 (lv_at hl 0 rfl) ?_
        refine r_ild hF hE hRb (by omega) (by omega) dX0_told_119 ?_
        refine tI (v := nI (lo (u.getD k 0))) (uS 1 (rest := [.int (nI (lo (t.getD k 0)))]) hF hE hS (fun _ z => absurd z id) (m_lo l E s.heap.size (u.getD k 0) (hU.at k)) (lw_S q451 q452 q0 q453) trivial hl.1 rfl dX0_told_120 ⟨by show _ ≤ 4; omega, by show _ ≤ 408; omega⟩) ?_
        have g1 := lo_lt _ (hT.at k)
        have g2 := lo_lt _ (hU.at k)
        refine lv_icmp_ne (tgt := 130) hx hb dX0_told_123 (by decide) (fun c_28 => ?_) (fun c_28 => ?_)
        · skip
          have hne : lo (t.getD k 0) ≠ lo (u.getD k 0) := fun z => c_28 (by rw [z])
          refine lv_iconst (v := nI 0) hx hb dX0_told_130 (by decide) ?_
          refine lv_istore (lv' := [(7, .int (nI 0)), (8, .int (nI k)), (5, .int (nI (pfx t u))), (6, .int (nI (sfx t u))), (0, .ref d), (1, .ref a), (2, .ref b), (3, .int (x))]) hx hb dX0_told_131 hl (by decide) rfl (fun ls hl => ?_)
          refine lv_iinc (v := nI (k + 1)) (lv' := [(8, .int (nI (k + 1))), (7, .int (nI 0)), (5, .int (nI (pfx t u))), (6, .int (nI (sfx t u))), (0, .ref d), (1, .ref a), (2, .ref b), (3, .int (x))]) hx hb dX0_told_133 hl (k := 1) rfl (nI_add k 1) (by decide) rfl (fun ls hl => ?_)
          refine lv_goto (tgt := 97) hx hb dX0_told_136 (by decide) ?_
          exact ih (k + 1) 0 ls (by omega) (Or.inr ⟨rfl, alk_0 k hne⟩) (lv_sub hl [0, 1, 2, 3, 4, 5, 6, 7] rfl)
        · skip
          have he : lo (t.getD k 0) = lo (u.getD k 0) := (nI_eq (by omega) (by omega)).mp c_28
          refine lv_iconst (v := nI 1) hx hb dX0_told_126 (by decide) ?_
          refine lv_goto (tgt := 131) hx hb dX0_told_127 (by decide) ?_
          refine lv_istore (lv' := [(7, .int (nI 1)), (8, .int (nI k)), (5, .int (nI (pfx t u))), (6, .int (nI (sfx t u))), (0, .ref d), (1, .ref a), (2, .ref b), (3, .int (x))]) hx hb dX0_told_131 hl (by decide) rfl (fun ls hl => ?_)
          refine lv_iinc (v := nI (k + 1)) (lv' := [(8, .int (nI (k + 1))), (7, .int (nI 1)), (5, .int (nI (pfx t u))), (6, .int (nI (sfx t u))), (0, .ref d), (1, .ref a), (2, .ref b), (3, .int (x))]) hx hb dX0_told_133 hl (k := 1) rfl (nI_add k 1) (by decide) rfl (fun ls hl => ?_)
          refine lv_goto (tgt := 97) hx hb dX0_told_136 (by decide) ?_
          exact ih (k + 1) 1 ls (by omega) (Or.inl ⟨rfl, hlen, fun j hj => by
              by_cases hjk : j = k
              · subst hjk; exact he
              · exact hz j (by omega)⟩) (lv_sub hl [0, 1, 2, 3, 4, 5, 6, 7] rfl)
      · skip
        rw [hq1] at hl
        refine lv_iload hx hb dX0_told_97 (lv_at hl 1 rfl) ?_
        refine lv_if_eq (tgt := 139) hx hb dX0_told_99 (by decide) (fun c_29 => ?_) (fun c_29 => absurd nI_0 c_29)
        exact t139 ls (by rw [ha]; exact (lv_sub hl [1, 2, 3, 4, 5, 6, 7] rfl))
  have t80 : ∀ (ls : Array Slot), lv_has ls 9 [(5, .int (nI (pfx t u))), (6, .int (nI (sfx t u))), (0, .ref d), (1, .ref a), (2, .ref b), (3, .int (x))] → W pp l ee ({ frames := 8, cells := 4, slots := 408, locals := 217 } : Room) s mm ([.ref d, .ref a, .ref b, .int (x)] : List Value).toArray bw me cd s.heap [] 0 0 (MQ bw (QJ (nI 1) (fun _ => True) (Nw s.heap.size)) ([.ref d, .ref a, .ref b, .int (x)] : List Value).toArray s 4 408 (Nw s.heap.size)) (F0 mm 80 ls []) := by
    intro ls hl
    refine lv_aload_n hx hb dX0_told_80 rfl (lv_at hl 3 rfl) ?_
    refine r_len hF hE 2 rfl hRa dX0_told_81 ?_
    refine lv_aload_n hx hb dX0_told_82 rfl (lv_at hl 4 rfl) ?_
    refine r_len hF hE 2 rfl hRb dX0_told_83 ?_
    refine lv_icmp_ne (tgt := 91) hx hb dX0_told_84 (by decide) (fun c_30 => ?_) (fun c_30 => ?_)
    · skip
      have hne : t.length ≠ u.length := fun z => c_30 (by rw [z])
      refine lv_iconst (v := nI 0) hx hb dX0_told_91 (by decide) ?_
      refine lv_istore (lv' := [(7, .int (nI 0)), (5, .int (nI (pfx t u))), (6, .int (nI (sfx t u))), (0, .ref d), (1, .ref a), (2, .ref b), (3, .int (x))]) hx hb dX0_told_92 hl (by decide) rfl (fun ls hl => ?_)
      refine lv_iconst (v := nI 0) hx hb dX0_told_94 (by decide) ?_
      refine lv_istore (lv' := [(8, .int (nI 0)), (7, .int (nI 0)), (5, .int (nI (pfx t u))), (6, .int (nI (sfx t u))), (0, .ref d), (1, .ref a), (2, .ref b), (3, .int (x))]) hx hb dX0_told_95 hl (by decide) rfl (fun ls hl => ?_)
      exact loop3 t.length 0 0 ls (by omega) (Or.inr ⟨rfl, alk_len hne⟩) (lv_sub hl [0, 1, 2, 3, 4, 5, 6, 7] rfl)
    · skip
      have he : t.length = u.length := (nI_eq (by omega) (by omega)).mp c_30
      refine lv_iconst (v := nI 1) hx hb dX0_told_87 (by decide) ?_
      refine lv_goto (tgt := 92) hx hb dX0_told_88 (by decide) ?_
      refine lv_istore (lv' := [(7, .int (nI 1)), (5, .int (nI (pfx t u))), (6, .int (nI (sfx t u))), (0, .ref d), (1, .ref a), (2, .ref b), (3, .int (x))]) hx hb dX0_told_92 hl (by decide) rfl (fun ls hl => ?_)
      refine lv_iconst (v := nI 0) hx hb dX0_told_94 (by decide) ?_
      refine lv_istore (lv' := [(8, .int (nI 0)), (7, .int (nI 1)), (5, .int (nI (pfx t u))), (6, .int (nI (sfx t u))), (0, .ref d), (1, .ref a), (2, .ref b), (3, .int (x))]) hx hb dX0_told_95 hl (by decide) rfl (fun ls hl => ?_)
      exact loop3 t.length 0 1 ls (by omega) (Or.inl ⟨rfl, he, fun j hj => absurd hj (Nat.not_lt_zero j)⟩) (lv_sub hl [0, 1, 2, 3, 4, 5, 6, 7] rfl)
  have loop2 : ∀ (n k : Nat) (ls : Array Slot), (k + n = min t.length u.length) → (∀ j, j < k → t.getD (t.length - j - 1) 0 = u.getD (u.length - j - 1) 0) → lv_has ls 9 [(6, .int (nI k)), (5, .int (nI (pfx t u))), (4, .int (nI (min t.length u.length))), (0, .ref d), (1, .ref a), (2, .ref b), (3, .int (x))] → W pp l ee ({ frames := 8, cells := 4, slots := 408, locals := 217 } : Room) s mm ([.ref d, .ref a, .ref b, .int (x)] : List Value).toArray bw me cd s.heap [] 0 0 (MQ bw (QJ (nI 1) (fun _ => True) (Nw s.heap.size)) ([.ref d, .ref a, .ref b, .int (x)] : List Value).toArray s 4 408 (Nw s.heap.size)) (F0 mm 46 ls []) := by
    intro n
    induction n with
    | zero =>
      intro k ls hk hz hl
      refine lv_iload hx hb dX0_told_46 (lv_at hl 0 rfl) ?_
      refine lv_iload hx hb dX0_told_48 (lv_at hl 2 rfl) ?_
      refine lv_icmp_ge (tgt := 80) hx hb dX0_told_50 (by decide) (fun c_31 => ?_) (fun c_31 => absurd ((nI_leI (by omega) (by omega)).mpr (by omega)) c_31)
      have hcp : k = sfx t u := cp_eq (by omega) hz (fun z => absurd z (by omega))
      rw [hcp] at hl
      exact t80 ls (lv_sub hl [1, 0, 3, 4, 5, 6] rfl)
    | succ n ih =>
      intro k ls hk hz hl
      have hkt : k < t.length := by omega
      have hku : k < u.length := by omega
      refine lv_iload hx hb dX0_told_46 (lv_at hl 0 rfl) ?_
      refine lv_iload hx hb dX0_told_48 (lv_at hl 2 rfl) ?_
      refine lv_icmp_ge (tgt := 80) hx hb dX0_told_50 (by decide) (fun c_32 => absurd c_32 (fun z => absurd ((nI_leI (by omega) (by omega)).mp z) (by omega))) (fun c_32 => ?_)
      refine lv_aload_n hx hb dX0_told_53 rfl (lv_at hl 4 rfl) ?_
      refine lv_aload_n hx hb dX0_told_54 rfl (lv_at hl 4 rfl) ?_
      refine r_len hF hE 2 rfl hRa dX0_told_55 ?_
      refine lv_iconst (v := nI 1) hx hb dX0_told_56 (by decide) ?_
      refine lv_isub hx hb dX0_told_57 ?_
      refine w_to (nI (t.length - 1)) (pk_sub (by omega)) ?_
      refine lv_iload hx hb dX0_told_58 (lv_at hl 0 rfl) ?_
      refine lv_isub hx hb dX0_told_60 ?_
      refine w_to (nI ((t.length - 1) - k)) (pk_sub (by omega)) ?_
      refine w_to (nI (t.length - k - 1)) (by rw [show t.length - 1 - k = t.length - k - 1 by omega]) ?_
      refine r_ild hF hE hRa (by omega) (by omega) dX0_told_61 ?_
      refine lv_aload_n hx hb dX0_told_62 rfl (lv_at hl 5 rfl) ?_
      refine lv_aload_n hx hb dX0_told_63 rfl (lv_at hl 5 rfl) ?_
      refine r_len hF hE 2 rfl hRb dX0_told_64 ?_
      refine lv_iconst (v := nI 1) hx hb dX0_told_65 (by decide) ?_
      refine lv_isub hx hb dX0_told_66 ?_
      refine w_to (nI (u.length - 1)) (pk_sub (by omega)) ?_
      refine lv_iload hx hb dX0_told_67 (lv_at hl 0 rfl) ?_
      refine lv_isub hx hb dX0_told_69 ?_
      refine w_to (nI ((u.length - 1) - k)) (pk_sub (by omega)) ?_
      refine w_to (nI (u.length - k - 1)) (by rw [show u.length - 1 - k = u.length - k - 1 by omega]) ?_
      refine r_ild hF hE hRb (by omega) (by omega) dX0_told_70 ?_
      have hc := hT.at (t.length - k - 1)
      have hd := hU.at (u.length - k - 1)
      refine lv_icmp_ne (tgt := 80) hx hb dX0_told_71 (by decide) (fun c_33 => ?_) (fun c_33 => ?_)
      · skip
        have hcp : k = sfx t u := cp_eq (by omega) hz (fun _ z => c_33 (congrArg nI z))
        rw [hcp] at hl
        exact t80 ls (lv_sub hl [1, 0, 3, 4, 5, 6] rfl)
      · skip
        have hcd : t.getD (t.length - k - 1) 0 = u.getD (u.length - k - 1) 0 := (nI_eq (by omega) (by omega)).mp c_33
        refine lv_iinc (v := nI (k + 1)) (lv' := [(6, .int (nI (k + 1))), (5, .int (nI (pfx t u))), (4, .int (nI (min t.length u.length))), (0, .ref d), (1, .ref a), (2, .ref b), (3, .int (x))]) hx hb dX0_told_74 hl (k := 0) rfl (nI_add k 1) (by decide) rfl (fun ls hl => ?_)
        refine lv_goto (tgt := 46) hx hb dX0_told_77 (by decide) ?_
        exact ih (k + 1) ls (by omega) (fun j hj => by
            by_cases hjk : j = k
            · subst hjk; exact hcd
            · exact hz j (by omega)) (lv_sub hl [0, 1, 2, 3, 4, 5, 6] rfl)
  have loop1 : ∀ (n k : Nat) (ls : Array Slot), (k + n = min t.length u.length) → (∀ j, j < k → t.getD j 0 = u.getD j 0) → lv_has ls 9 [(5, .int (nI k)), (6, .int (nI 0)), (4, .int (nI (min t.length u.length))), (0, .ref d), (1, .ref a), (2, .ref b), (3, .int (x))] → W pp l ee ({ frames := 8, cells := 4, slots := 408, locals := 217 } : Room) s mm ([.ref d, .ref a, .ref b, .int (x)] : List Value).toArray bw me cd s.heap [] 0 0 (MQ bw (QJ (nI 1) (fun _ => True) (Nw s.heap.size)) ([.ref d, .ref a, .ref b, .int (x)] : List Value).toArray s 4 408 (Nw s.heap.size)) (F0 mm 22 ls []) := by
    intro n
    induction n with
    | zero =>
      intro k ls hk hz hl
      refine lv_iload hx hb dX0_told_22 (lv_at hl 0 rfl) ?_
      refine lv_iload hx hb dX0_told_24 (lv_at hl 2 rfl) ?_
      refine lv_icmp_ge (tgt := 46) hx hb dX0_told_26 (by decide) (fun c_34 => ?_) (fun c_34 => absurd ((nI_leI (by omega) (by omega)).mpr (by omega)) c_34)
      have hcp : k = pfx t u := cp_eq (by omega) hz (fun z => absurd z (by omega))
      rw [hcp] at hl
      exact loop2 (min t.length u.length) 0 ls (by omega) (fun j hj => absurd hj (Nat.not_lt_zero j)) (lv_sub hl [1, 0, 2, 3, 4, 5, 6] rfl)
    | succ n ih =>
      intro k ls hk hz hl
      have hkt : k < t.length := by omega
      have hku : k < u.length := by omega
      refine lv_iload hx hb dX0_told_22 (lv_at hl 0 rfl) ?_
      refine lv_iload hx hb dX0_told_24 (lv_at hl 2 rfl) ?_
      refine lv_icmp_ge (tgt := 46) hx hb dX0_told_26 (by decide) (fun c_35 => absurd c_35 (fun z => absurd ((nI_leI (by omega) (by omega)).mp z) (by omega))) (fun c_35 => ?_)
      refine lv_aload_n hx hb dX0_told_29 rfl (lv_at hl 4 rfl) ?_
      refine lv_iload hx hb dX0_told_30 (lv_at hl 0 rfl) ?_
      refine r_ild hF hE hRa (by omega) (by omega) dX0_told_32 ?_
      refine lv_aload_n hx hb dX0_told_33 rfl (lv_at hl 5 rfl) ?_
      refine lv_iload hx hb dX0_told_34 (lv_at hl 0 rfl) ?_
      refine r_ild hF hE hRb (by omega) (by omega) dX0_told_36 ?_
      have hc := hT.at k
      have hd := hU.at k
      refine lv_icmp_ne (tgt := 46) hx hb dX0_told_37 (by decide) (fun c_36 => ?_) (fun c_36 => ?_)
      · skip
        have hcp : k = pfx t u := cp_eq (by omega) hz (fun _ z => c_36 (congrArg nI z))
        rw [hcp] at hl
        exact loop2 (min t.length u.length) 0 ls (by omega) (fun j hj => absurd hj (Nat.not_lt_zero j)) (lv_sub hl [1, 0, 2, 3, 4, 5, 6] rfl)
      · skip
        have hcd : t.getD k 0 = u.getD k 0 := (nI_eq (by omega) (by omega)).mp c_36
        refine lv_iinc (v := nI (k + 1)) (lv' := [(5, .int (nI (k + 1))), (6, .int (nI 0)), (4, .int (nI (min t.length u.length))), (0, .ref d), (1, .ref a), (2, .ref b), (3, .int (x))]) hx hb dX0_told_40 hl (k := 0) rfl (nI_add k 1) (by decide) rfl (fun ls hl => ?_)
        refine lv_goto (tgt := 22) hx hb dX0_told_43 (by decide) ?_
        exact ih (k + 1) ls (by omega) (fun j hj => by
            by_cases hjk : j = k
            · subst hjk; exact hcd
            · exact hz j (by omega)) (lv_sub hl [0, 1, 2, 3, 4, 5, 6] rfl)
  have t14 : ∀ (ls : Array Slot), lv_has ls 9 [(0, .ref d), (1, .ref a), (2, .ref b), (3, .int (x))] → W pp l ee ({ frames := 8, cells := 4, slots := 408, locals := 217 } : Room) s mm ([.ref d, .ref a, .ref b, .int (x)] : List Value).toArray bw me cd s.heap [] 0 0 (MQ bw (QJ (nI 1) (fun _ => True) (Nw s.heap.size)) ([.ref d, .ref a, .ref b, .int (x)] : List Value).toArray s 4 408 (Nw s.heap.size)) (F0 mm 14 ls [.int (nI (min t.length u.length))]) := by
    intro ls hl
    refine lv_istore (lv' := [(4, .int (nI (min t.length u.length))), (0, .ref d), (1, .ref a), (2, .ref b), (3, .int (x))]) hx hb dX0_told_14 hl (by decide) rfl (fun ls hl => ?_)
    refine lv_iconst (v := nI 0) hx hb dX0_told_16 (by decide) ?_
    refine lv_istore (lv' := [(5, .int (nI 0)), (4, .int (nI (min t.length u.length))), (0, .ref d), (1, .ref a), (2, .ref b), (3, .int (x))]) hx hb dX0_told_17 hl (by decide) rfl (fun ls hl => ?_)
    refine lv_iconst (v := nI 0) hx hb dX0_told_19 (by decide) ?_
    refine lv_istore (lv' := [(6, .int (nI 0)), (5, .int (nI 0)), (4, .int (nI (min t.length u.length))), (0, .ref d), (1, .ref a), (2, .ref b), (3, .int (x))]) hx hb dX0_told_20 hl (by decide) rfl (fun ls hl => ?_)
    exact loop1 (min t.length u.length) 0 ls (by omega) (fun j hj => absurd hj (Nat.not_lt_zero j)) (lv_sub hl [1, 0, 2, 3, 4, 5, 6] rfl)
  refine lv_aload_n hx hb dX0_told_0 rfl (lv_at hl 1 rfl) ?_
  refine r_len hF hE 2 rfl hRa dX0_told_1 ?_
  refine lv_aload_n hx hb dX0_told_2 rfl (lv_at hl 2 rfl) ?_
  refine r_len hF hE 2 rfl hRb dX0_told_3 ?_
  refine lv_icmp_ge (tgt := 12) hx hb dX0_told_4 (by decide) (fun c_37 => ?_) (fun c_37 => ?_)
  · skip
    have hle : u.length ≤ t.length := (nI_leI (by omega) (by omega)).mp c_37
    refine lv_aload_n hx hb dX0_told_12 rfl (lv_at hl 2 rfl) ?_
    refine r_len hF hE 2 rfl hRb dX0_told_13 ?_
    refine w_to (nI (min t.length u.length)) (by rw [Nat.min_eq_right hle]) ?_
    exact t14 ls hl
  · skip
    have hle : ¬ u.length ≤ t.length := fun z => c_37 ((nI_leI (by omega) (by omega)).mpr z)
    refine lv_aload_n hx hb dX0_told_7 rfl (lv_at hl 1 rfl) ?_
    refine r_len hF hE 2 rfl hRa dX0_told_8 ?_
    refine lv_goto (tgt := 14) hx hb dX0_told_9 (by decide) ?_
    refine w_to (nI (min t.length u.length)) (by rw [Nat.min_eq_left (by omega)]) ?_
    exact t14 ls hl
end
section
/-! the law's start: what the Statement gives; calls of 'cell'; the law's own end -/
set_option maxRecDepth 100000
theorem arr_start {args : Array Value} {s : State} {ty : FieldType} (h : (Cond.arrayClass ty).before args s = true) : ∃ cX : ClassId, s.vm.findClass ("[" ++ ty.toString) = some cX ∧ ArrOfT s cX ty := by
  obtain ⟨c, k, comp, h1, h2, h3⟩ := Cond.arrayClass_spec h
  exact ⟨c, h1, fun n z => ⟨fun k h => (by cases h), k, h2, comp, h3⟩⟩
theorem ev_start {s : State} {args : Array Value} (hts0 : ∀ w ∈ lw_tbl, w.before args s = true) (hgv : (Jvm.Cond.and given_1 narrow_1).before args s = true) : ∃ E : EvT, Ev E (Nw s.heap.size) s s.heap := by
  have hts : ∀ w ∈ lw_all, w.before args s = true := fun w h => hts0 w (lw_all_tbl h)
  have hs := flat_of_before _ hgv
  have hA : ∀ a : Nat, a < s.heap.size → ¬ Nw s.heap.size a := fun a h z => absurd h (Nat.not_lt.mpr z)
  obtain ⟨c0, i0, hK0⟩ := u_known (C := RJ0) (T := TJ0) (N := 4) (n := 4) hts in_J0 (hts _ q226)
  obtain ⟨c1, i1, hK1⟩ := u_known (C := RJ8) (T := TJ8) (N := 4) (n := 4) hts in_J8 (hts _ q48)
  obtain ⟨c2, i2, hK2⟩ := u_known (C := RX1) (T := TX1) (N := 2) (n := 2) hts in_X1 (hts _ q17)
  obtain ⟨cB, hB1, hB2⟩ := arr_start (hts _ q32)
  obtain ⟨cC, hC1, hC2⟩ := arr_start (hts _ q377)
  obtain ⟨cI, hI1, hI2⟩ := arr_start (hts _ q441)
  -- the constant ""
  obtain ⟨a0, ca, cell, ka, he, hca, hcell, hka, hnst, hcls, -⟩ := Cond.exactly_spec (args := args) (first := s) (o := none) (s := s) (idx := []) (t := Term.string "TextDesk" 7) (cls := "java/lang/String") (hs _ (by decide +kernel))
  obtain ⟨v0, cv, cellV, kv, hv, hcv, hcellV, hkv, -, hclsV, -⟩ := Cond.exactly_spec (args := args) (first := s) (o := none) (s := s) (idx := []) (t := Term.field (Term.string "TextDesk" 7) "java/lang/String" "value" "[B") (cls := "[B") (hs _ (by decide +kernel))
  have hco : va_OF "java/lang/String" "coder" "B" (.int 0) a0 (Nw s.heap.size) s s.heap := vk_OFof he (va_eqt (hs (Cond.eq (.field (Term.string "TextDesk" 7) "java/lang/String" "coder" "B") (.int 0)) (by decide +kernel))) hA
  have hva : va_OF "java/lang/String" "value" "[B" (.ref v0) a0 (Nw s.heap.size) s s.heap := vk_OFof he hv hA
  obtain ⟨t0, ht0, hT0⟩ := va_Tof (args := args) (s := s) (tm := Term.field (Term.string "TextDesk" 7) "java/lang/String" "value" "[B") (ty := .byte) (N := 0) (f := fun _ => .null) (A := Nw s.heap.size) (by decide) (hs (Cond.arrayOf (.field (Term.string "TextDesk" 7) "java/lang/String" "value" "[B") .byte) (by decide +kernel)) (va_eqt (hs (Cond.eq (.length (.field (Term.string "TextDesk" 7) "java/lang/String" "value" "[B")) (.int 0)) (by decide +kernel))) (fun j hj => absurd hj (Nat.not_lt_zero j)) hA
  cases hv.symm.trans ht0
  have heL : (Term.string "java/lang/StringLatin1" 151).eval args s none [] s = some (.ref a0) := va_eqR (hs (Cond.eq (Term.string "TextDesk" 7) (Term.string "java/lang/StringLatin1" 151)) (by decide +kernel)) he
  refine ⟨((fun k => if k = 0 then c0 else if k = 1 then c1 else c2, fun k => if k = 0 then i0 else if k = 1 then i1 else i2), cB, cC, cI, a0), ⟨fun k q hq => ?_, fun k q hq => ?_⟩, va_Zof (hts0 _ q46) (hts _ q4) (va_eqi (hs (Cond.eq (.static "java/lang/String" "COMPACT_STRINGS" "Z") (.int 1)) (by decide +kernel))) hA, va_Zqof (hts0 _ q137) (hts _ q7) (hs (Cond.isRef (.static "jdk/internal/util/Preconditions" "SIOOBE_FORMATTER" "Ljava/util/function/BiFunction;")) (by decide +kernel)) hA, ⟨va_Fw.of (hts0 _ q398) (hts0 _ q397) (hts0 _ q402) (hts0 _ q401) (hts0 _ q399), va_Fw.of (hts0 _ q410) (hts0 _ q409) (hts0 _ q413) (hts0 _ q412) (hts0 _ q399), va_Fw.of (hts0 _ q484) (hts0 _ q483) (hts0 _ q488) (hts0 _ q486) (hts0 _ q399), va_Fw.of (hts0 _ q537) (hts0 _ q536) (hts0 _ q541) (hts0 _ q539) (hts0 _ q399)⟩, ⟨vk_R.of (hts0 _ q24) ?_, vk_R.of (hts0 _ q499) ?_⟩, va_Nw.of rfl (hts0 _ q110), ⟨⟨Nat.zero_le _, fun c h => absurd h List.not_mem_nil⟩, v0, ?_, ?_⟩⟩
  · match k, hq with
    | 0, hq => cases hq; exact hK0
    | 1, hq => cases hq; exact hK1
    | 2, hq => cases hq; exact hK2
    | k + 3, hq => simp [vwCl] at hq
  · match k, hq with
    | 0, hq => cases hq; exact ⟨hB2, hB1⟩
    | 1, hq => cases hq; exact ⟨hC2, hC1⟩
    | 2, hq => cases hq; exact ⟨hI2, hI1⟩
    | k + 3, hq => simp [tyL] at hq
  · exact he
  · exact heL
  · obtain ⟨cf, kf, fi, fd, cl1, g1, g2, g3, g4, g5, g6⟩ := hva
    obtain ⟨cf', kf', fi', fd', cl2, h1, h2, h3, h4, h5, h6⟩ := hco
    cases hcell.symm.trans g3
    cases hcell.symm.trans h3
    obtain ⟨xf, xk, xi, xd, e1, e2⟩ := hK0.1 0 (by decide)
    obtain ⟨yf, yk, yi, yd, e3, e4⟩ := hK0.1 1 (by decide)
    cases e1.symm.trans g1
    cases e3.symm.trans h1
    refine ⟨cell, hcell, ?_, hnst, g4, ?_, ?_, g6⟩
    · rw [hcls]
      exact Option.some.inj (hca.symm.trans hK0.2.1)
    · show cell.slots[i0 0]? = _
      rw [← e2]; exact g5
    · show cell.slots[i0 1]? = _
      rw [← e4]; exact h5
  · obtain ⟨cl1, g1, g2, g3, g4, g5, g6, g7⟩ := hT0
    cases hcellV.symm.trans g1
    refine ⟨cellV, hcellV, ?_, g2.1, g3, g4, g5, fun j hj => absurd hj (Nat.not_lt_zero j), g7⟩
    rw [hclsV]
    have e : "[" ++ FieldType.byte.toString = "[B" := by decide +kernel
    rw [e] at hB1
    exact Option.some.inj (hcv.symm.trans hB1)
theorem lohi : ∀ c, c < 128 → lo (hi c) = lo c := by decide +kernel
theorem alk_hi {t : List Nat} (h : Tx t) : alk t (t.map hi) = 1 := alk_1 (List.length_map _).symm (fun j _ => by rw [map_getD t hi hi_00, lohi _ (h.at j)])
theorem app2 {α : Type} (t : List α) (x y : α) : t ++ [x] ++ [y] = t ++ [x, y] := List.append_assoc t [x] [y]
theorem y6_0 : y6 (nI 0) = 0 := by decide
section XW
variable {p : Program} {l : Launch} {e : Env} {R : Room} {s : State} {m : MethodId} {args : Array Value} {below : List Frame} {meth : Method} {c : Code} {H : Heap} {locs : List Loc} {cells slots : Nat} {Q : State → Prop}
variable {cc : ByteArray} {pc nL : Nat} {ls : Array Slot} {rest st0 : List Value} {A : Nat → Prop} {own : String} {mc ms : Nat}
variable {y : MethodName} {b : ByteArray} {L idx : Nat} {r : Option FieldType} {rm : Room} {As : List Value} {Qc : Array Value → State → Outcome → State → Prop} {free : Addr → Prop}
theorem uSX (n : Nat) (hF : CallFix p m c cc nL s args lw_all own) (hS : va_S A s.heap H locs) {b0 L0 : Nat} {xs : Nat → Int32} (hX : va_X b0 L0 xs s s.heap) (hbl : b0 < s.heap.size) (hbA : ¬ A b0) (hM : Met l y (ws_ y b L r) rm (PcX As H.size b0 L0 xs) Qc mc ms free) (hq : GoodIn lw_all (va_wsS own idx y (ws_ y b L r))) (hl : ls.size = nL) (hst : st0 = As.reverse ++ rest) (hdg : decode cc pc = .ok (.invokestatic idx, 3)) (hc : cells + mc ≤ R.cells ∧ slots + ms ≤ R.slots)
    (hn : As.length = n := by rfl) (hrm : rm.cells = mc ∧ rm.slots = ms := by exact ⟨rfl, rfl⟩) (hd : y.cls ≠ "java/lang/invoke/MethodHandle" ∧ y.cls ≠ "java/lang/invoke/VarHandle" ∧ (parseMethodDescriptor y.desc).map (fun d => d.parameters.length) = some n := by decide +kernel) (hR : rm.frames + 1 ≤ R.frames ∧ 8 + (L + 11) + rm.locals ≤ R.locals := by exact ⟨Nat.le_of_ble_eq_true rfl, Nat.le_of_ble_eq_true rfl⟩) (hroom : (rest.map fun v => v.category).sum ≤ 8 := by exact Nat.le_of_ble_eq_true rfl) :
    va_Run p l e R s m args below meth c H locs cells slots mc ms (F0 m pc ls st0) rest (Qc As.toArray) free :=
  va_runS (As := As) (rest := rest) hF hM (va_cwS n hF.2.2.2.2 hq rfl hrm.1 hrm.2 hd hR) ⟨PcX.blind, fun U hU hW => ⟨rfl, by rw [hU], by rw [hU]; exact va_X.moved hW.alike (hX.kept (hS.2.1 b0 hbl hbA))⟩⟩ rfl hn hl hst (lv_room hroom) hdg hc
end XW
def R_law : String := "TextDeskLaw"
def lw_P (b : Addr) (xs : List Int32) (args : Array Value) (s : State) : Prop := args = #[.ref b] ∧ s.IntsAt b xs ∧ xs.length ≤ 96 ∧ (Jvm.Cond.and given_1 narrow_1).before args s = true
def lw_Q (_ : Array Value) (s : State) (o : Outcome) (t : State) : Prop := o = .returned (some (.int 1)) ∧ Framed s o t [] 1200000 5502250
def lw_Z (below : List Frame) (a : Array Value) (s : State) : State → Prop := fun t => ∃ o, t.status = .running ∧ Ended t below o ∧ lw_Q a s o t
/-- the law's own end, with 1 on the stack, nothing written that was there before, its room as the claim has it -/
theorem lw_ret {p : Program} {l : Launch} {e : Env} {s : State} {m : MethodId} {below : List Frame} {meth : Method} {c : Code} {b : Nat} (hx : p.tables.exec = Jvm.exec) (hb : c.code = code) (hr : meth.sig.returnType = ret) (hlocks : meth.locks = false) {pc : Nat} {H : Heap} {ls : Array Slot} (hdg : decode code pc = .ok (.ireturn, 1)) : W p l e room_1 s m #[Value.ref b] below meth c H [] 1200000 5502250 (lw_Z below #[Value.ref b] s) (F0 m pc ls [.int 1]) := by
  intro T hT X
  obtain ⟨fs, hret, hrun, hended, hW, hframe⟩ := X.leave (v := some (.int 1)) (hlocks := hlocks) (fun h => by rw [hr] at h; cases h)
  have hmeth' : T.vm.method? m = some meth := X.method'
  refine ⟨T.setFrames fs, ?_, .returned (some (.int 1)), hrun, hended, rfl, ⟨_, rfl⟩, hW, hframe⟩
  jvm_step X.here [X.here.top, hx, hb, hdg, hmeth', hr, ret, narrow_b1]
  (try refine ⟨rfl, ?_⟩); (try refine ⟨rfl, ?_⟩)
  first | (intro acts; rw [hret _ acts rfl rfl rfl]) | rw [hret _ _ rfl rfl rfl]
  exact Steps.refl _
/-- what holds at the law's entry: the machine, the code, the tables' words (any of lw_tbl by 'hts w (by decide +kernel)'), the script of L ints xs at the cell b, what the Statement gives of the start (any of its parts by flat_of_before) -/
def lw_At (p : Program) (s : State) (m : MethodId) (meth : Method) (c : Code) (b L : Nat) (xs : Nat → Int32) : Prop :=
  p.tables.exec = Jvm.exec ∧ c.code = code ∧ meth.sig.returnType = ret ∧ c.maxLocals = 12 ∧ s.vm.findClass R_law = some m.cls ∧ (∀ w ∈ lw_tbl, w.before #[Value.ref b] s = true) ∧ va_X b L xs s s.heap ∧ b < s.heap.size ∧ meth.locks = false ∧ (Jvm.Cond.and given_1 narrow_1).before #[Value.ref b] s = true
end
section
/-! the walk of the law's body -/
set_option maxRecDepth 100000
set_option maxHeartbeats 4000000 in
/-- from 517 to the end -/
theorem law_end (l : Launch) {pp : Program} {ee : Env} {s : State} {mm : MethodId} {bw : List Frame} {me : Method} {cd : Code} {E : EvT} {b L d : Nat} {xs : Nat → Int32} (hF : CallFix pp mm cd code 12 s #[Value.ref b] lw_all R_law) (hr : me.sig.returnType = ret) (hlk : me.locks = false) (hE : Ev E (Nw s.heap.size) s s.heap) (hL : L ≤ 96) (hXs : va_X b L xs s s.heap) (hbl : b < s.heap.size) (hbA : ¬ Nw s.heap.size b) (hd : s.heap.size ≤ d) : ∀ (a bb : Nat) (t u : List Nat) (H : Heap) (locs : List Loc) (ls : Array Slot), (Dsk E H d t u) → (RA (eI E) (Eqd d) H a t.length (tb t)) → (RA (eI E) (Eqd d) H bb u.length (tb u)) → (va_S (Nw s.heap.size) s.heap H locs) → lv_has ls 12 [(1, .ref d), (2, .ref a), (3, .ref bb), (0, .ref b)] → W pp l ee room_1 s mm #[Value.ref b] bw me cd H locs 700 70000 (lw_Z bw #[Value.ref b] s) (F0 mm 517 ls []) := by
  have hx := hF.1
  have hb := hF.2.1
  have hA : ∀ q, s.heap.size ≤ q → Nw s.heap.size q := fun _ h => h
  intro a bb t u H locs ls hDk hRa hRb hS hl
  have hT : Tx t := by obtain ⟨_, _, _, h, _⟩ := hDk; exact h.1
  have hU : Tx u := by obtain ⟨_, _, _, _, h⟩ := hDk; exact h.1
  have h64 := hT.len
  have h65 := hU.len
  refine lv_aload_n hx hb dL_law_517 rfl (lv_at hl 0 rfl) ?_
  refine lv_iconst (v := nI 0) hx hb dL_law_518 (by decide) ?_
  refine lv_aload_n hx hb dL_law_519 rfl (lv_at hl 3 rfl) ?_
  refine lv_iconst (v := nI 1) hx hb dL_law_520 (by decide) ?_
  refine tI (v := cel L xs (1)) (uSX 2 (rest := [.int (nI 0), .ref d]) hF hS hXs hbl hbA (m_cell l H.size b L xs hL (1) (by omega)) (lw_S q428 q429 q0 q430) hl.1 rfl dL_law_521 ⟨by show _ ≤ 1200000; omega, by show _ ≤ 5502250; omega⟩) ?_
  refine lv_topi (fun x1 _ => ?_)
  have hpe : padE t (y6 (nI 0)) (sg x1) = t := by rw [y6_0]; exact padE_0 (Nat.zero_le _)
  refine tQW (uV 2 (rest := []) hF hE hS (fun q z => z.elim (fun h => by rw [h]; exact hd) (fun h => hA q (Nat.le_trans hS.1 h))) (m_X1_padE l E H.size d t u (nI 0) x1) (lw_V q306 q307 q308 q1 q309) (hDk.recv hE) hDk hl.1 rfl dL_law_524 ⟨by show _ ≤ 1200000; omega, by show _ ≤ 5502250; omega⟩) hS (fun q z => z.elim (fun h => by rw [h]; exact hd) (fun h => hA q (Nat.le_trans hS.1 h))) (fun H_1 locs_1 hB hz_1 hk_1 hSn => ?_)
  have hDk : Dsk E H_1 d (t) (t) := by rw [hpe] at hB; exact hB
  have hRa := hRa.st hk_1 (fun _ hq z => z.elim id (fun h => absurd hq (Nat.not_lt.mpr h)))
  have hRb := hRb.st hk_1 (fun _ hq z => z.elim id (fun h => absurd hq (Nat.not_lt.mpr h)))
  have hS := hSn
  refine lv_aload_n hx hb dL_law_527 rfl (lv_at hl 0 rfl) ?_
  refine lv_aload_n hx hb dL_law_528 rfl (lv_at hl 1 rfl) ?_
  refine lv_aload_n hx hb dL_law_529 rfl (lv_at hl 1 rfl) ?_
  refine lv_aload_n hx hb dL_law_530 rfl (lv_at hl 3 rfl) ?_
  refine lv_iconst (v := nI 2) hx hb dL_law_531 (by decide) ?_
  refine tI (v := cel L xs (2)) (uSX 2 (rest := [.ref a, .ref a, .ref d]) hF hS hXs hbl hbA (m_cell l H_1.size b L xs hL (2) (by omega)) (lw_S q428 q429 q0 q430) hl.1 rfl dL_law_532 ⟨by show _ ≤ 1200000; omega, by show _ ≤ 5502250; omega⟩) ?_
  refine lv_topi (fun x2 _ => ?_)
  refine tQJ (uS 4 (rest := []) hF hE hS (fun q z => hA q (Nat.le_trans hS.1 z)) (m_told l E H_1.size d a a t t x2) (lw_S q454 q455 q0 q456) ⟨hDk, hRa.no, hRa.no⟩ hl.1 rfl dL_law_535 ⟨by show _ ≤ 1200000; omega, by show _ ≤ 5502250; omega⟩) hS (fun q z => hA q (Nat.le_trans hS.1 z)) (fun H_2 locs_2 hB hz_2 hk_2 hSn => ?_)
  have hDk := hDk.keep hk_2
  have hRa := hRa.keep hk_2
  have hS := hSn
  refine lv_if_ne (tgt := 543) hx hb dL_law_538 (by decide) (fun c_3 => ?_) (fun c_3 => absurd c_3 (fun z => absurd z (by decide)))
  refine lv_aload_n hx hb dL_law_543 rfl (lv_at hl 0 rfl) ?_
  refine lv_iconst (v := nI 1) hx hb dL_law_544 (by decide) ?_
  have ho1 : ¬ od (nI 1) = 0 := by decide
  have hRb := hRa
  refine tQW (uV 1 (rest := []) hF hE hS (fun q z => z.elim (fun h => by rw [h]; exact hd) (fun h => hA q (Nat.le_trans hS.1 h))) (m_X1_hi l E H_2.size d t t (nI 1)) (lw_V q378 q379 q380 q1 q381) (hDk.recv hE) hDk hl.1 rfl dL_law_545 ⟨by show _ ≤ 1200000; omega, by show _ ≤ 5502250; omega⟩) hS (fun q z => z.elim (fun h => by rw [h]; exact hd) (fun h => hA q (Nat.le_trans hS.1 h))) (fun H_4 locs_4 hB hz_4 hk_4 hSn => ?_)
  have hDk : Dsk E H_4 d (t) (t.map hi) := by rw [if_neg ho1, if_neg ho1] at hB; exact hB
  have hRa := hRa.st hk_4 (fun _ hq z => z.elim id (fun h => absurd hq (Nat.not_lt.mpr h)))
  have hRb := hRb.st hk_4 (fun _ hq z => z.elim id (fun h => absurd hq (Nat.not_lt.mpr h)))
  have hS := hSn
  refine lv_aload_n hx hb dL_law_548 rfl (lv_at hl 0 rfl) ?_
  refine lv_aload_n hx hb dL_law_549 rfl (lv_at hl 1 rfl) ?_
  refine lv_aload_n hx hb dL_law_550 rfl (lv_at hl 1 rfl) ?_
  refine lv_iconst (v := nI 1) hx hb dL_law_551 (by decide) ?_
  refine tQR (uS 2 (rest := [.ref a, .ref d]) hF hE hS (fun q z => hA q (Nat.le_trans hS.1 z)) (m_cHi l E H_4.size a t hT (Eqd d) (fun q z => by rw [z]; exact hDk.lt)) (lw_S q445 q446 q0 q447) hRa.no hl.1 rfl dL_law_552 ⟨by show _ ≤ 1200000; omega, by show _ ≤ 5502250; omega⟩) hS (fun q z => hA q (Nat.le_trans hS.1 z)) (fun q H_5 locs_5 hB hz_5 hk_5 hSn => ?_)
  have hNew := hB
  have hDk := hDk.keep hk_5
  have hRa := hRa.keep hk_5
  have hRb := hRb.keep hk_5
  have hS := hSn
  refine lv_aload_n hx hb dL_law_555 rfl (lv_at hl 3 rfl) ?_
  refine lv_iconst (v := nI 3) hx hb dL_law_556 (by decide) ?_
  refine tI (v := cel L xs (3)) (uSX 2 (rest := [.ref q, .ref a, .ref d]) hF hS hXs hbl hbA (m_cell l H_5.size b L xs hL (3) (by omega)) (lw_S q428 q429 q0 q430) hl.1 rfl dL_law_557 ⟨by show _ ≤ 1200000; omega, by show _ ≤ 5502250; omega⟩) ?_
  refine lv_topi (fun x3 _ => ?_)
  refine tQJ (uS 4 (rest := []) hF hE hS (fun q z => hA q (Nat.le_trans hS.1 z)) (m_told l E H_5.size d a q t (t.map hi) x3) (lw_S q454 q455 q0 q456) ⟨hDk, hRa.no, hNew.no⟩ hl.1 rfl dL_law_560 ⟨by show _ ≤ 1200000; omega, by show _ ≤ 5502250; omega⟩) hS (fun q z => hA q (Nat.le_trans hS.1 z)) (fun H_6 locs_6 hB hz_6 hk_6 hSn => ?_)
  have hDk := hDk.keep hk_6
  have hS := hSn
  refine lv_if_eq (tgt := 577) hx hb dL_law_563 (by decide) (fun c_7 => absurd c_7 (by decide)) (fun c_7 => ?_)
  refine lv_aload_n hx hb dL_law_566 rfl (lv_at hl 0 rfl) ?_
  refine tI (v := nI (alk t (t.map hi))) (uV 0 (rest := []) hF hE hS (fun _ z => absurd z id) (m_X1_alike l E H_6.size d t (t.map hi)) (lw_V q388 q389 q390 q1 q391) (hDk.recv hE) hDk hl.1 rfl dL_law_567 ⟨by show _ ≤ 1200000; omega, by show _ ≤ 5502250; omega⟩) ?_
  refine w_to (nI 1) (by rw [alk_hi hT]) ?_
  refine lv_if_eq (tgt := 577) hx hb dL_law_570 (by decide) (fun c_8 => absurd c_8 (by decide)) (fun c_8 => ?_)
  refine lv_iconst (v := nI 1) hx hb dL_law_573 (by decide) ?_
  refine lv_goto (tgt := 578) hx hb dL_law_574 (by decide) ?_
  refine w_to (1) (by decide) ?_
  refine W.widen (k := 1200000) (n := 5502250) (by omega) (by omega) ?_
  refine va_forget (fun q hq => hS.2.2 q hq) ?_
  exact lw_ret hx hb hr hlk dL_law_578
set_option maxHeartbeats 4000000 in
/-- case 0 -/
theorem law_j0 (l : Launch) {pp : Program} {ee : Env} {s : State} {mm : MethodId} {bw : List Frame} {me : Method} {cd : Code} {E : EvT} {b L d : Nat} {xs : Nat → Int32} (hF : CallFix pp mm cd code 12 s #[Value.ref b] lw_all R_law) (hr : me.sig.returnType = ret) (hlk : me.locks = false) (hE : Ev E (Nw s.heap.size) s s.heap) (hL : L ≤ 96) (hXs : va_X b L xs s s.heap) (hbl : b < s.heap.size) (hbA : ¬ Nw s.heap.size b) (hd : s.heap.size ≤ d) (k : Nat) (hk : k ≤ 96) (x y z wh : Int32) (t498 : ∀ (a bb : Nat) (t u : List Nat) (H : Heap) (locs : List Loc) (ls : Array Slot), (Dsk E H d t u) → (RA (eI E) (Eqd d) H a t.length (tb t)) → (RA (eI E) (Eqd d) H bb u.length (tb u)) → (va_S (Nw s.heap.size) s.heap H locs) → lv_has ls 12 [(7, .int (z)), (4, .int (nI k)), (1, .ref d), (2, .ref a), (3, .ref bb), (0, .ref b)] → W pp l ee room_1 s mm #[Value.ref b] bw me cd H locs (10 + 7 * k + 14) (1000 + 700 * k + 1400) (lw_Z bw #[Value.ref b] s) (F0 mm 498 ls [])) : ∀ (a bb : Nat) (t u : List Nat) (H : Heap) (locs : List Loc) (ls : Array Slot), (Dsk E H d t u) → (RA (eI E) (Eqd d) H a t.length (tb t)) → (RA (eI E) (Eqd d) H bb u.length (tb u)) → (va_S (Nw s.heap.size) s.heap H locs) → lv_has ls 12 [(9, .int (nI (1 - od wh))), (8, .int (wh)), (7, .int (z)), (6, .int (y)), (5, .int (x)), (4, .int (nI k)), (1, .ref d), (2, .ref a), (3, .ref bb), (0, .ref b)] → W pp l ee room_1 s mm #[Value.ref b] bw me cd H locs (10 + 7 * k) (1000 + 700 * k) (lw_Z bw #[Value.ref b] s) (F0 mm 148 ls []) := by
  have hx := hF.1
  have hb := hF.2.1
  have hA : ∀ q, s.heap.size ≤ q → Nw s.heap.size q := fun _ h => h
  intro a bb t u H locs ls hDk hRa hRb hS hl
  have hT : Tx t := by obtain ⟨_, _, _, h, _⟩ := hDk; exact h.1
  have hU : Tx u := by obtain ⟨_, _, _, _, h⟩ := hDk; exact h.1
  have h64 := hT.len
  have h65 := hU.len
  have hod := od_lt wh
  have hyy := y6_lt y
  have hO : od wh = 0 ∨ od wh = 1 := by omega
  refine lv_aload_n hx hb dL_law_148 rfl (lv_at hl 6 rfl) ?_
  refine lv_iload hx hb dL_law_149 (lv_at hl 1 rfl) ?_
  rcases hO with ho | ho
  · skip
    refine tQW (uV 1 (rest := []) hF hE hS (fun q z => z.elim (fun h => by rw [h]; exact hd) (fun h => hA q (Nat.le_trans hS.1 h))) (m_X1_empty l E H.size d t u wh) (lw_V q281 q282 q283 q1 q284) (hDk.recv hE) hDk hl.1 rfl dL_law_151 ⟨by show _ ≤ 1200000; omega, by show _ ≤ 5502250; omega⟩) hS (fun q z => z.elim (fun h => by rw [h]; exact hd) (fun h => hA q (Nat.le_trans hS.1 h))) (fun H_9 locs_9 hB hz_9 hk_9 hSn => ?_)
    have hDk : Dsk E H_9 d ([]) (u) := by rw [if_pos ho, if_pos ho] at hB; exact hB
    have hRa := hRa.st hk_9 (fun _ hq z => z.elim id (fun h => absurd hq (Nat.not_lt.mpr h)))
    have hRb := hRb.st hk_9 (fun _ hq z => z.elim id (fun h => absurd hq (Nat.not_lt.mpr h)))
    have hS := hSn
    refine lv_iload hx hb dL_law_154 (lv_at hl 0 rfl) ?_
    refine lv_if_eq (tgt := 166) hx hb dL_law_156 (by decide) (fun c_10 => absurd c_10 (fun z => absurd ((nI_z (by omega)).mp z) (by omega))) (fun c_10 => ?_)
    refine lv_iconst (v := nI 0) hx hb dL_law_159 (by decide) ?_
    have hP := p_nil (E := E) (H := H_9)
    have hD := d_nil (A := Nw s.heap.size)
    refine r_new (cX := eI E) (atype := .int) hF hE q441 (hE.1.2 2 _ rfl).2 rfl hP hD hS hA (N' := 0) (by omega) (by decide) (by show _ ≤ 1200000; omega) (by show _ ≤ 5502250; omega) dL_law_160 (fun q H_11 hq_q hP hD hS hz_11 hk_11 => ?_)
    have hP : va_P E.1 vwCl [(q, .inl (eI E, 0, .inl (fun _ => 0)))] H_11 := hP
    have hD : va_D (Nw s.heap.size) [(q, .inl (eI E, 0, .inl (fun _ => 0)))] := hD
    have hNew : RA (eI E) (Eqd d) H_11 q (([] : List Nat).length) (tb []) := (RA.of hP 0 rfl (fun z => Nat.ne_of_gt hDk.lt (hq_q.symm.trans z))).congr (fun j hj => absurd hj (Nat.not_lt_zero j))
    have hDk := hDk.keep hk_11
    have hRa := hRa.keep hk_11
    have hRb := hRb.keep hk_11
    refine lv_astore_n (lv' := [(2, .ref q), (9, .int (nI (1 - od wh))), (8, .int (wh)), (7, .int (z)), (6, .int (y)), (5, .int (x)), (4, .int (nI k)), (1, .ref d), (3, .ref bb), (0, .ref b)]) hx hb dL_law_162 rfl hl (by decide) rfl (fun ls hl => ?_)
    refine lv_goto (tgt := 498) hx hb dL_law_163 (by decide) ?_
    refine W.widen (k := 10 + 7 * k + 14) (n := 1000 + 700 * k + 1400) (by omega) (by omega) ?_
    exact t498 q bb ([]) (u) H_11 _ ls hDk hNew hRb hS (lv_sub hl [3, 6, 7, 0, 8, 9] rfl)
  · skip
    have hn : ¬ od wh = 0 := by omega
    refine tQW (uV 1 (rest := []) hF hE hS (fun q z => z.elim (fun h => by rw [h]; exact hd) (fun h => hA q (Nat.le_trans hS.1 h))) (m_X1_empty l E H.size d t u wh) (lw_V q281 q282 q283 q1 q284) (hDk.recv hE) hDk hl.1 rfl dL_law_151 ⟨by show _ ≤ 1200000; omega, by show _ ≤ 5502250; omega⟩) hS (fun q z => z.elim (fun h => by rw [h]; exact hd) (fun h => hA q (Nat.le_trans hS.1 h))) (fun H_12 locs_12 hB hz_12 hk_12 hSn => ?_)
    have hDk : Dsk E H_12 d (t) ([]) := by rw [if_neg hn, if_neg hn] at hB; exact hB
    have hRa := hRa.st hk_12 (fun _ hq z => z.elim id (fun h => absurd hq (Nat.not_lt.mpr h)))
    have hRb := hRb.st hk_12 (fun _ hq z => z.elim id (fun h => absurd hq (Nat.not_lt.mpr h)))
    have hS := hSn
    refine lv_iload hx hb dL_law_154 (lv_at hl 0 rfl) ?_
    refine lv_if_eq (tgt := 166) hx hb dL_law_156 (by decide) (fun c_13 => ?_) (fun c_13 => absurd ((nI_z (by omega)).mpr (by omega)) c_13)
    refine lv_iconst (v := nI 0) hx hb dL_law_166 (by decide) ?_
    have hP := p_nil (E := E) (H := H_12)
    have hD := d_nil (A := Nw s.heap.size)
    refine r_new (cX := eI E) (atype := .int) hF hE q441 (hE.1.2 2 _ rfl).2 rfl hP hD hS hA (N' := 0) (by omega) (by decide) (by show _ ≤ 1200000; omega) (by show _ ≤ 5502250; omega) dL_law_167 (fun q H_14 hq_q hP hD hS hz_14 hk_14 => ?_)
    have hP : va_P E.1 vwCl [(q, .inl (eI E, 0, .inl (fun _ => 0)))] H_14 := hP
    have hD : va_D (Nw s.heap.size) [(q, .inl (eI E, 0, .inl (fun _ => 0)))] := hD
    have hNew : RA (eI E) (Eqd d) H_14 q (([] : List Nat).length) (tb []) := (RA.of hP 0 rfl (fun z => Nat.ne_of_gt hDk.lt (hq_q.symm.trans z))).congr (fun j hj => absurd hj (Nat.not_lt_zero j))
    have hDk := hDk.keep hk_14
    have hRa := hRa.keep hk_14
    have hRb := hRb.keep hk_14
    refine lv_astore_n (lv' := [(3, .ref q), (9, .int (nI (1 - od wh))), (8, .int (wh)), (7, .int (z)), (6, .int (y)), (5, .int (x)), (4, .int (nI k)), (1, .ref d), (2, .ref a), (0, .ref b)]) hx hb dL_law_169 rfl hl (by decide) rfl (fun ls hl => ?_)
    refine lv_goto (tgt := 498) hx hb dL_law_170 (by decide) ?_
    refine W.widen (k := 10 + 7 * k + 14) (n := 1000 + 700 * k + 1400) (by omega) (by omega) ?_
    exact t498 a q (t) ([]) H_14 _ ls hDk hRa hNew hS (lv_sub hl [3, 6, 7, 8, 0, 9] rfl)
set_option maxHeartbeats 4000000 in
/-- case 1 -/
theorem law_j1 (l : Launch) {pp : Program} {ee : Env} {s : State} {mm : MethodId} {bw : List Frame} {me : Method} {cd : Code} {E : EvT} {b L d : Nat} {xs : Nat → Int32} (hF : CallFix pp mm cd code 12 s #[Value.ref b] lw_all R_law) (hr : me.sig.returnType = ret) (hlk : me.locks = false) (hE : Ev E (Nw s.heap.size) s s.heap) (hL : L ≤ 96) (hXs : va_X b L xs s s.heap) (hbl : b < s.heap.size) (hbA : ¬ Nw s.heap.size b) (hd : s.heap.size ≤ d) (k : Nat) (hk : k ≤ 96) (x y z wh : Int32) (t498 : ∀ (a bb : Nat) (t u : List Nat) (H : Heap) (locs : List Loc) (ls : Array Slot), (Dsk E H d t u) → (RA (eI E) (Eqd d) H a t.length (tb t)) → (RA (eI E) (Eqd d) H bb u.length (tb u)) → (va_S (Nw s.heap.size) s.heap H locs) → lv_has ls 12 [(7, .int (z)), (4, .int (nI k)), (1, .ref d), (2, .ref a), (3, .ref bb), (0, .ref b)] → W pp l ee room_1 s mm #[Value.ref b] bw me cd H locs (10 + 7 * k + 14) (1000 + 700 * k + 1400) (lw_Z bw #[Value.ref b] s) (F0 mm 498 ls [])) : ∀ (a bb : Nat) (t u : List Nat) (H : Heap) (locs : List Loc) (ls : Array Slot), (Dsk E H d t u) → (RA (eI E) (Eqd d) H a t.length (tb t)) → (RA (eI E) (Eqd d) H bb u.length (tb u)) → (va_S (Nw s.heap.size) s.heap H locs) → lv_has ls 12 [(9, .int (nI (1 - od wh))), (8, .int (wh)), (7, .int (z)), (6, .int (y)), (5, .int (x)), (4, .int (nI k)), (1, .ref d), (2, .ref a), (3, .ref bb), (0, .ref b)] → W pp l ee room_1 s mm #[Value.ref b] bw me cd H locs (10 + 7 * k) (1000 + 700 * k) (lw_Z bw #[Value.ref b] s) (F0 mm 173 ls []) := by
  have hx := hF.1
  have hb := hF.2.1
  have hA : ∀ q, s.heap.size ≤ q → Nw s.heap.size q := fun _ h => h
  intro a bb t u H locs ls hDk hRa hRb hS hl
  have hT : Tx t := by obtain ⟨_, _, _, h, _⟩ := hDk; exact h.1
  have hU : Tx u := by obtain ⟨_, _, _, _, h⟩ := hDk; exact h.1
  have h64 := hT.len
  have h65 := hU.len
  have hod := od_lt wh
  have hyy := y6_lt y
  have hO : od wh = 0 ∨ od wh = 1 := by omega
  refine lv_aload_n hx hb dL_law_173 rfl (lv_at hl 6 rfl) ?_
  refine lv_iload hx hb dL_law_174 (lv_at hl 3 rfl) ?_
  refine lv_iload hx hb dL_law_176 (lv_at hl 2 rfl) ?_
  refine tQW (uV 2 (rest := []) hF hE hS (fun q z => z.elim (fun h => by rw [h]; exact hd) (fun h => hA q (Nat.le_trans hS.1 h))) (m_X1_padS l E H.size d t u y z) (lw_V q285 q286 q287 q1 q288) (hDk.recv hE) hDk hl.1 rfl dL_law_178 ⟨by show _ ≤ 1200000; omega, by show _ ≤ 5502250; omega⟩) hS (fun q z => z.elim (fun h => by rw [h]; exact hd) (fun h => hA q (Nat.le_trans hS.1 h))) (fun H_15 locs_15 hB hz_15 hk_15 hSn => ?_)
  have hDk : Dsk E H_15 d (t) (padS t (y6 y) (sg z)) := hB
  have hRa := hRa.st hk_15 (fun _ hq z => z.elim id (fun h => absurd hq (Nat.not_lt.mpr h)))
  have hRb := hRb.st hk_15 (fun _ hq z => z.elim id (fun h => absurd hq (Nat.not_lt.mpr h)))
  have hS := hSn
  refine lv_aload_n hx hb dL_law_181 rfl (lv_at hl 7 rfl) ?_
  refine lv_iload hx hb dL_law_182 (lv_at hl 3 rfl) ?_
  refine lv_bipush (v := nI 63) hx hb dL_law_184 (by decide) ?_
  refine lv_iand hx hb dL_law_186 ?_
  refine w_to (nI (y6 y)) (y6_and y) ?_
  refine lv_iload hx hb dL_law_187 (lv_at hl 2 rfl) ?_
  refine tI (v := nI (sg z)) (uS 1 (rest := [.int (nI (y6 y)), .ref a]) hF hE hS (fun _ z => absurd z id) (m_X0_sign l E H_15.size z) (lw_S q435 q436 q0 q437) trivial hl.1 rfl dL_law_189 ⟨by show _ ≤ 1200000; omega, by show _ ≤ 5502250; omega⟩) ?_
  refine lv_iconst (v := nI 1) hx hb dL_law_192 (by decide) ?_
  refine tQR (uS 4 (rest := []) hF hE hS (fun q z => hA q (Nat.le_trans hS.1 z)) (m_pS l E H_15.size a t hT (y6 y) (sg z) (by omega) (Eqd d) (fun q z => by rw [z]; exact hDk.lt)) (lw_S q442 q443 q0 q444) hRa.no hl.1 rfl dL_law_193 ⟨by show _ ≤ 1200000; omega, by show _ ≤ 5502250; omega⟩) hS (fun q z => hA q (Nat.le_trans hS.1 z)) (fun q H_16 locs_16 hB hz_16 hk_16 hSn => ?_)
  have hNew := hB
  have hDk := hDk.keep hk_16
  have hRa := hRa.keep hk_16
  have hRb := hRb.keep hk_16
  have hS := hSn
  refine lv_astore_n (lv' := [(3, .ref q), (9, .int (nI (1 - od wh))), (8, .int (wh)), (7, .int (z)), (6, .int (y)), (5, .int (x)), (4, .int (nI k)), (1, .ref d), (2, .ref a), (0, .ref b)]) hx hb dL_law_196 rfl hl (by decide) rfl (fun ls hl => ?_)
  refine lv_goto (tgt := 498) hx hb dL_law_197 (by decide) ?_
  refine W.widen (k := 10 + 7 * k + 14) (n := 1000 + 700 * k + 1400) (by omega) (by omega) ?_
  exact t498 a q (t) (padS t (y6 y) (sg z)) H_16 _ ls hDk hRa hNew hS (lv_sub hl [3, 6, 7, 8, 0, 9] rfl)
set_option maxHeartbeats 4000000 in
/-- case 3 -/
theorem law_j3 (l : Launch) {pp : Program} {ee : Env} {s : State} {mm : MethodId} {bw : List Frame} {me : Method} {cd : Code} {E : EvT} {b L d : Nat} {xs : Nat → Int32} (hF : CallFix pp mm cd code 12 s #[Value.ref b] lw_all R_law) (hr : me.sig.returnType = ret) (hlk : me.locks = false) (hE : Ev E (Nw s.heap.size) s s.heap) (hL : L ≤ 96) (hXs : va_X b L xs s s.heap) (hbl : b < s.heap.size) (hbA : ¬ Nw s.heap.size b) (hd : s.heap.size ≤ d) (k : Nat) (hk : k ≤ 96) (x y z wh : Int32) (t498 : ∀ (a bb : Nat) (t u : List Nat) (H : Heap) (locs : List Loc) (ls : Array Slot), (Dsk E H d t u) → (RA (eI E) (Eqd d) H a t.length (tb t)) → (RA (eI E) (Eqd d) H bb u.length (tb u)) → (va_S (Nw s.heap.size) s.heap H locs) → lv_has ls 12 [(7, .int (z)), (4, .int (nI k)), (1, .ref d), (2, .ref a), (3, .ref bb), (0, .ref b)] → W pp l ee room_1 s mm #[Value.ref b] bw me cd H locs (10 + 7 * k + 14) (1000 + 700 * k + 1400) (lw_Z bw #[Value.ref b] s) (F0 mm 498 ls [])) : ∀ (a bb : Nat) (t u : List Nat) (H : Heap) (locs : List Loc) (ls : Array Slot), (Dsk E H d t u) → (RA (eI E) (Eqd d) H a t.length (tb t)) → (RA (eI E) (Eqd d) H bb u.length (tb u)) → (va_S (Nw s.heap.size) s.heap H locs) → lv_has ls 12 [(9, .int (nI (1 - od wh))), (8, .int (wh)), (7, .int (z)), (6, .int (y)), (5, .int (x)), (4, .int (nI k)), (1, .ref d), (2, .ref a), (3, .ref bb), (0, .ref b)] → W pp l ee room_1 s mm #[Value.ref b] bw me cd H locs (10 + 7 * k) (1000 + 700 * k) (lw_Z bw #[Value.ref b] s) (F0 mm 200 ls []) := by
  have hx := hF.1
  have hb := hF.2.1
  have hA : ∀ q, s.heap.size ≤ q → Nw s.heap.size q := fun _ h => h
  intro a bb t u H locs ls hDk hRa hRb hS hl
  have hT : Tx t := by obtain ⟨_, _, _, h, _⟩ := hDk; exact h.1
  have hU : Tx u := by obtain ⟨_, _, _, _, h⟩ := hDk; exact h.1
  have h64 := hT.len
  have h65 := hU.len
  have hod := od_lt wh
  have hyy := y6_lt y
  have hO : od wh = 0 ∨ od wh = 1 := by omega
  refine lv_aload_n hx hb dL_law_200 rfl (lv_at hl 6 rfl) ?_
  refine lv_iload hx hb dL_law_201 (lv_at hl 3 rfl) ?_
  refine lv_iload hx hb dL_law_203 (lv_at hl 2 rfl) ?_
  refine tQW (uV 2 (rest := []) hF hE hS (fun q z => z.elim (fun h => by rw [h]; exact hd) (fun h => hA q (Nat.le_trans hS.1 h))) (m_X1_padE l E H.size d t u y z) (lw_V q306 q307 q308 q1 q309) (hDk.recv hE) hDk hl.1 rfl dL_law_205 ⟨by show _ ≤ 1200000; omega, by show _ ≤ 5502250; omega⟩) hS (fun q z => z.elim (fun h => by rw [h]; exact hd) (fun h => hA q (Nat.le_trans hS.1 h))) (fun H_17 locs_17 hB hz_17 hk_17 hSn => ?_)
  have hDk : Dsk E H_17 d (t) (padE t (y6 y) (sg z)) := hB
  have hRa := hRa.st hk_17 (fun _ hq z => z.elim id (fun h => absurd hq (Nat.not_lt.mpr h)))
  have hRb := hRb.st hk_17 (fun _ hq z => z.elim id (fun h => absurd hq (Nat.not_lt.mpr h)))
  have hS := hSn
  refine lv_aload_n hx hb dL_law_208 rfl (lv_at hl 7 rfl) ?_
  refine lv_iload hx hb dL_law_209 (lv_at hl 3 rfl) ?_
  refine lv_bipush (v := nI 63) hx hb dL_law_211 (by decide) ?_
  refine lv_iand hx hb dL_law_213 ?_
  refine w_to (nI (y6 y)) (y6_and y) ?_
  refine lv_iload hx hb dL_law_214 (lv_at hl 2 rfl) ?_
  refine tI (v := nI (sg z)) (uS 1 (rest := [.int (nI (y6 y)), .ref a]) hF hE hS (fun _ z => absurd z id) (m_X0_sign l E H_17.size z) (lw_S q435 q436 q0 q437) trivial hl.1 rfl dL_law_216 ⟨by show _ ≤ 1200000; omega, by show _ ≤ 5502250; omega⟩) ?_
  refine lv_iconst (v := nI 0) hx hb dL_law_219 (by decide) ?_
  refine tQR (uS 4 (rest := []) hF hE hS (fun q z => hA q (Nat.le_trans hS.1 z)) (m_pE l E H_17.size a t hT (y6 y) (sg z) (by omega) (Eqd d) (fun q z => by rw [z]; exact hDk.lt)) (lw_S q442 q443 q0 q444) hRa.no hl.1 rfl dL_law_220 ⟨by show _ ≤ 1200000; omega, by show _ ≤ 5502250; omega⟩) hS (fun q z => hA q (Nat.le_trans hS.1 z)) (fun q H_18 locs_18 hB hz_18 hk_18 hSn => ?_)
  have hNew := hB
  have hDk := hDk.keep hk_18
  have hRa := hRa.keep hk_18
  have hRb := hRb.keep hk_18
  have hS := hSn
  refine lv_astore_n (lv' := [(3, .ref q), (9, .int (nI (1 - od wh))), (8, .int (wh)), (7, .int (z)), (6, .int (y)), (5, .int (x)), (4, .int (nI k)), (1, .ref d), (2, .ref a), (0, .ref b)]) hx hb dL_law_223 rfl hl (by decide) rfl (fun ls hl => ?_)
  refine lv_goto (tgt := 498) hx hb dL_law_224 (by decide) ?_
  refine W.widen (k := 10 + 7 * k + 14) (n := 1000 + 700 * k + 1400) (by omega) (by omega) ?_
  exact t498 a q (t) (padE t (y6 y) (sg z)) H_18 _ ls hDk hRa hNew hS (lv_sub hl [3, 6, 7, 8, 0, 9] rfl)
set_option maxHeartbeats 4000000 in
/-- case 5 -/
theorem law_j5 (l : Launch) {pp : Program} {ee : Env} {s : State} {mm : MethodId} {bw : List Frame} {me : Method} {cd : Code} {E : EvT} {b L d : Nat} {xs : Nat → Int32} (hF : CallFix pp mm cd code 12 s #[Value.ref b] lw_all R_law) (hr : me.sig.returnType = ret) (hlk : me.locks = false) (hE : Ev E (Nw s.heap.size) s s.heap) (hL : L ≤ 96) (hXs : va_X b L xs s s.heap) (hbl : b < s.heap.size) (hbA : ¬ Nw s.heap.size b) (hd : s.heap.size ≤ d) (k : Nat) (hk : k ≤ 96) (x y z wh : Int32) (t498 : ∀ (a bb : Nat) (t u : List Nat) (H : Heap) (locs : List Loc) (ls : Array Slot), (Dsk E H d t u) → (RA (eI E) (Eqd d) H a t.length (tb t)) → (RA (eI E) (Eqd d) H bb u.length (tb u)) → (va_S (Nw s.heap.size) s.heap H locs) → lv_has ls 12 [(7, .int (z)), (4, .int (nI k)), (1, .ref d), (2, .ref a), (3, .ref bb), (0, .ref b)] → W pp l ee room_1 s mm #[Value.ref b] bw me cd H locs (10 + 7 * k + 14) (1000 + 700 * k + 1400) (lw_Z bw #[Value.ref b] s) (F0 mm 498 ls [])) : ∀ (a bb : Nat) (t u : List Nat) (H : Heap) (locs : List Loc) (ls : Array Slot), (Dsk E H d t u) → (RA (eI E) (Eqd d) H a t.length (tb t)) → (RA (eI E) (Eqd d) H bb u.length (tb u)) → (va_S (Nw s.heap.size) s.heap H locs) → lv_has ls 12 [(9, .int (nI (1 - od wh))), (8, .int (wh)), (7, .int (z)), (6, .int (y)), (5, .int (x)), (4, .int (nI k)), (1, .ref d), (2, .ref a), (3, .ref bb), (0, .ref b)] → W pp l ee room_1 s mm #[Value.ref b] bw me cd H locs (10 + 7 * k) (1000 + 700 * k) (lw_Z bw #[Value.ref b] s) (F0 mm 227 ls []) := by
  have hx := hF.1
  have hb := hF.2.1
  have hA : ∀ q, s.heap.size ≤ q → Nw s.heap.size q := fun _ h => h
  intro a bb t u H locs ls hDk hRa hRb hS hl
  have hT : Tx t := by obtain ⟨_, _, _, h, _⟩ := hDk; exact h.1
  have hU : Tx u := by obtain ⟨_, _, _, _, h⟩ := hDk; exact h.1
  have h64 := hT.len
  have h65 := hU.len
  have hod := od_lt wh
  have hyy := y6_lt y
  have hO : od wh = 0 ∨ od wh = 1 := by omega
  refine lv_aload_n hx hb dL_law_227 rfl (lv_at hl 6 rfl) ?_
  refine lv_iload hx hb dL_law_228 (lv_at hl 1 rfl) ?_
  rcases hO with ho | ho
  · skip
    refine tQW (uV 1 (rest := []) hF hE hS (fun q z => z.elim (fun h => by rw [h]; exact hd) (fun h => hA q (Nat.le_trans hS.1 h))) (m_X1_lo l E H.size d t u wh) (lw_V q313 q314 q315 q1 q316) (hDk.recv hE) hDk hl.1 rfl dL_law_230 ⟨by show _ ≤ 1200000; omega, by show _ ≤ 5502250; omega⟩) hS (fun q z => z.elim (fun h => by rw [h]; exact hd) (fun h => hA q (Nat.le_trans hS.1 h))) (fun H_19 locs_19 hB hz_19 hk_19 hSn => ?_)
    have hDk : Dsk E H_19 d (t.map lo) (u) := by rw [if_pos ho, if_pos ho] at hB; exact hB
    have hRa := hRa.st hk_19 (fun _ hq z => z.elim id (fun h => absurd hq (Nat.not_lt.mpr h)))
    have hRb := hRb.st hk_19 (fun _ hq z => z.elim id (fun h => absurd hq (Nat.not_lt.mpr h)))
    have hS := hSn
    refine lv_iload hx hb dL_law_233 (lv_at hl 0 rfl) ?_
    refine lv_if_eq (tgt := 247) hx hb dL_law_235 (by decide) (fun c_20 => absurd c_20 (fun z => absurd ((nI_z (by omega)).mp z) (by omega))) (fun c_20 => ?_)
    refine lv_aload_n hx hb dL_law_238 rfl (lv_at hl 7 rfl) ?_
    refine lv_iconst (v := nI 0) hx hb dL_law_239 (by decide) ?_
    refine tQR (uS 2 (rest := []) hF hE hS (fun q z => hA q (Nat.le_trans hS.1 z)) (m_cLo l E H_19.size a t hT (Eqd d) (fun q z => by rw [z]; exact hDk.lt)) (lw_S q445 q446 q0 q447) hRa.no hl.1 rfl dL_law_240 ⟨by show _ ≤ 1200000; omega, by show _ ≤ 5502250; omega⟩) hS (fun q z => hA q (Nat.le_trans hS.1 z)) (fun q H_21 locs_21 hB hz_21 hk_21 hSn => ?_)
    have hNew := hB
    have hDk := hDk.keep hk_21
    have hRa := hRa.keep hk_21
    have hRb := hRb.keep hk_21
    have hS := hSn
    refine lv_astore_n (lv' := [(2, .ref q), (9, .int (nI (1 - od wh))), (8, .int (wh)), (7, .int (z)), (6, .int (y)), (5, .int (x)), (4, .int (nI k)), (1, .ref d), (3, .ref bb), (0, .ref b)]) hx hb dL_law_243 rfl hl (by decide) rfl (fun ls hl => ?_)
    refine lv_goto (tgt := 498) hx hb dL_law_244 (by decide) ?_
    refine W.widen (k := 10 + 7 * k + 14) (n := 1000 + 700 * k + 1400) (by omega) (by omega) ?_
    exact t498 q bb (t.map lo) (u) H_21 _ ls hDk hNew hRb hS (lv_sub hl [3, 6, 7, 0, 8, 9] rfl)
  · skip
    have hn : ¬ od wh = 0 := by omega
    refine tQW (uV 1 (rest := []) hF hE hS (fun q z => z.elim (fun h => by rw [h]; exact hd) (fun h => hA q (Nat.le_trans hS.1 h))) (m_X1_lo l E H.size d t u wh) (lw_V q313 q314 q315 q1 q316) (hDk.recv hE) hDk hl.1 rfl dL_law_230 ⟨by show _ ≤ 1200000; omega, by show _ ≤ 5502250; omega⟩) hS (fun q z => z.elim (fun h => by rw [h]; exact hd) (fun h => hA q (Nat.le_trans hS.1 h))) (fun H_22 locs_22 hB hz_22 hk_22 hSn => ?_)
    have hDk : Dsk E H_22 d (t) (u.map lo) := by rw [if_neg hn, if_neg hn] at hB; exact hB
    have hRa := hRa.st hk_22 (fun _ hq z => z.elim id (fun h => absurd hq (Nat.not_lt.mpr h)))
    have hRb := hRb.st hk_22 (fun _ hq z => z.elim id (fun h => absurd hq (Nat.not_lt.mpr h)))
    have hS := hSn
    refine lv_iload hx hb dL_law_233 (lv_at hl 0 rfl) ?_
    refine lv_if_eq (tgt := 247) hx hb dL_law_235 (by decide) (fun c_23 => ?_) (fun c_23 => absurd ((nI_z (by omega)).mpr (by omega)) c_23)
    refine lv_aload_n hx hb dL_law_247 rfl (lv_at hl 8 rfl) ?_
    refine lv_iconst (v := nI 0) hx hb dL_law_248 (by decide) ?_
    refine tQR (uS 2 (rest := []) hF hE hS (fun q z => hA q (Nat.le_trans hS.1 z)) (m_cLo l E H_22.size bb u hU (Eqd d) (fun q z => by rw [z]; exact hDk.lt)) (lw_S q445 q446 q0 q447) hRb.no hl.1 rfl dL_law_249 ⟨by show _ ≤ 1200000; omega, by show _ ≤ 5502250; omega⟩) hS (fun q z => hA q (Nat.le_trans hS.1 z)) (fun q H_24 locs_24 hB hz_24 hk_24 hSn => ?_)
    have hNew := hB
    have hDk := hDk.keep hk_24
    have hRa := hRa.keep hk_24
    have hRb := hRb.keep hk_24
    have hS := hSn
    refine lv_astore_n (lv' := [(3, .ref q), (9, .int (nI (1 - od wh))), (8, .int (wh)), (7, .int (z)), (6, .int (y)), (5, .int (x)), (4, .int (nI k)), (1, .ref d), (2, .ref a), (0, .ref b)]) hx hb dL_law_252 rfl hl (by decide) rfl (fun ls hl => ?_)
    refine lv_goto (tgt := 498) hx hb dL_law_253 (by decide) ?_
    refine W.widen (k := 10 + 7 * k + 14) (n := 1000 + 700 * k + 1400) (by omega) (by omega) ?_
    exact t498 a q (t) (u.map lo) H_24 _ ls hDk hRa hNew hS (lv_sub hl [3, 6, 7, 8, 0, 9] rfl)
set_option maxHeartbeats 4000000 in
/-- case 6 -/
theorem law_j6 (l : Launch) {pp : Program} {ee : Env} {s : State} {mm : MethodId} {bw : List Frame} {me : Method} {cd : Code} {E : EvT} {b L d : Nat} {xs : Nat → Int32} (hF : CallFix pp mm cd code 12 s #[Value.ref b] lw_all R_law) (hr : me.sig.returnType = ret) (hlk : me.locks = false) (hE : Ev E (Nw s.heap.size) s s.heap) (hL : L ≤ 96) (hXs : va_X b L xs s s.heap) (hbl : b < s.heap.size) (hbA : ¬ Nw s.heap.size b) (hd : s.heap.size ≤ d) (k : Nat) (hk : k ≤ 96) (x y z wh : Int32) (t498 : ∀ (a bb : Nat) (t u : List Nat) (H : Heap) (locs : List Loc) (ls : Array Slot), (Dsk E H d t u) → (RA (eI E) (Eqd d) H a t.length (tb t)) → (RA (eI E) (Eqd d) H bb u.length (tb u)) → (va_S (Nw s.heap.size) s.heap H locs) → lv_has ls 12 [(7, .int (z)), (4, .int (nI k)), (1, .ref d), (2, .ref a), (3, .ref bb), (0, .ref b)] → W pp l ee room_1 s mm #[Value.ref b] bw me cd H locs (10 + 7 * k + 14) (1000 + 700 * k + 1400) (lw_Z bw #[Value.ref b] s) (F0 mm 498 ls [])) : ∀ (a bb : Nat) (t u : List Nat) (H : Heap) (locs : List Loc) (ls : Array Slot), (Dsk E H d t u) → (RA (eI E) (Eqd d) H a t.length (tb t)) → (RA (eI E) (Eqd d) H bb u.length (tb u)) → (va_S (Nw s.heap.size) s.heap H locs) → lv_has ls 12 [(9, .int (nI (1 - od wh))), (8, .int (wh)), (7, .int (z)), (6, .int (y)), (5, .int (x)), (4, .int (nI k)), (1, .ref d), (2, .ref a), (3, .ref bb), (0, .ref b)] → W pp l ee room_1 s mm #[Value.ref b] bw me cd H locs (10 + 7 * k) (1000 + 700 * k) (lw_Z bw #[Value.ref b] s) (F0 mm 256 ls []) := by
  have hx := hF.1
  have hb := hF.2.1
  have hA : ∀ q, s.heap.size ≤ q → Nw s.heap.size q := fun _ h => h
  intro a bb t u H locs ls hDk hRa hRb hS hl
  have hT : Tx t := by obtain ⟨_, _, _, h, _⟩ := hDk; exact h.1
  have hU : Tx u := by obtain ⟨_, _, _, _, h⟩ := hDk; exact h.1
  have h64 := hT.len
  have h65 := hU.len
  have hod := od_lt wh
  have hyy := y6_lt y
  have hO : od wh = 0 ∨ od wh = 1 := by omega
  refine lv_aload_n hx hb dL_law_256 rfl (lv_at hl 6 rfl) ?_
  refine lv_iload hx hb dL_law_257 (lv_at hl 1 rfl) ?_
  rcases hO with ho | ho
  · skip
    refine tQW (uV 1 (rest := []) hF hE hS (fun q z => z.elim (fun h => by rw [h]; exact hd) (fun h => hA q (Nat.le_trans hS.1 h))) (m_X1_hi l E H.size d t u wh) (lw_V q378 q379 q380 q1 q381) (hDk.recv hE) hDk hl.1 rfl dL_law_259 ⟨by show _ ≤ 1200000; omega, by show _ ≤ 5502250; omega⟩) hS (fun q z => z.elim (fun h => by rw [h]; exact hd) (fun h => hA q (Nat.le_trans hS.1 h))) (fun H_25 locs_25 hB hz_25 hk_25 hSn => ?_)
    have hDk : Dsk E H_25 d (t.map hi) (u) := by rw [if_pos ho, if_pos ho] at hB; exact hB
    have hRa := hRa.st hk_25 (fun _ hq z => z.elim id (fun h => absurd hq (Nat.not_lt.mpr h)))
    have hRb := hRb.st hk_25 (fun _ hq z => z.elim id (fun h => absurd hq (Nat.not_lt.mpr h)))
    have hS := hSn
    refine lv_iload hx hb dL_law_262 (lv_at hl 0 rfl) ?_
    refine lv_if_eq (tgt := 276) hx hb dL_law_264 (by decide) (fun c_26 => absurd c_26 (fun z => absurd ((nI_z (by omega)).mp z) (by omega))) (fun c_26 => ?_)
    refine lv_aload_n hx hb dL_law_267 rfl (lv_at hl 7 rfl) ?_
    refine lv_iconst (v := nI 1) hx hb dL_law_268 (by decide) ?_
    refine tQR (uS 2 (rest := []) hF hE hS (fun q z => hA q (Nat.le_trans hS.1 z)) (m_cHi l E H_25.size a t hT (Eqd d) (fun q z => by rw [z]; exact hDk.lt)) (lw_S q445 q446 q0 q447) hRa.no hl.1 rfl dL_law_269 ⟨by show _ ≤ 1200000; omega, by show _ ≤ 5502250; omega⟩) hS (fun q z => hA q (Nat.le_trans hS.1 z)) (fun q H_27 locs_27 hB hz_27 hk_27 hSn => ?_)
    have hNew := hB
    have hDk := hDk.keep hk_27
    have hRa := hRa.keep hk_27
    have hRb := hRb.keep hk_27
    have hS := hSn
    refine lv_astore_n (lv' := [(2, .ref q), (9, .int (nI (1 - od wh))), (8, .int (wh)), (7, .int (z)), (6, .int (y)), (5, .int (x)), (4, .int (nI k)), (1, .ref d), (3, .ref bb), (0, .ref b)]) hx hb dL_law_272 rfl hl (by decide) rfl (fun ls hl => ?_)
    refine lv_goto (tgt := 498) hx hb dL_law_273 (by decide) ?_
    refine W.widen (k := 10 + 7 * k + 14) (n := 1000 + 700 * k + 1400) (by omega) (by omega) ?_
    exact t498 q bb (t.map hi) (u) H_27 _ ls hDk hNew hRb hS (lv_sub hl [3, 6, 7, 0, 8, 9] rfl)
  · skip
    have hn : ¬ od wh = 0 := by omega
    refine tQW (uV 1 (rest := []) hF hE hS (fun q z => z.elim (fun h => by rw [h]; exact hd) (fun h => hA q (Nat.le_trans hS.1 h))) (m_X1_hi l E H.size d t u wh) (lw_V q378 q379 q380 q1 q381) (hDk.recv hE) hDk hl.1 rfl dL_law_259 ⟨by show _ ≤ 1200000; omega, by show _ ≤ 5502250; omega⟩) hS (fun q z => z.elim (fun h => by rw [h]; exact hd) (fun h => hA q (Nat.le_trans hS.1 h))) (fun H_28 locs_28 hB hz_28 hk_28 hSn => ?_)
    have hDk : Dsk E H_28 d (t) (u.map hi) := by rw [if_neg hn, if_neg hn] at hB; exact hB
    have hRa := hRa.st hk_28 (fun _ hq z => z.elim id (fun h => absurd hq (Nat.not_lt.mpr h)))
    have hRb := hRb.st hk_28 (fun _ hq z => z.elim id (fun h => absurd hq (Nat.not_lt.mpr h)))
    have hS := hSn
    refine lv_iload hx hb dL_law_262 (lv_at hl 0 rfl) ?_
    refine lv_if_eq (tgt := 276) hx hb dL_law_264 (by decide) (fun c_29 => ?_) (fun c_29 => absurd ((nI_z (by omega)).mpr (by omega)) c_29)
    refine lv_aload_n hx hb dL_law_276 rfl (lv_at hl 8 rfl) ?_
    refine lv_iconst (v := nI 1) hx hb dL_law_277 (by decide) ?_
    refine tQR (uS 2 (rest := []) hF hE hS (fun q z => hA q (Nat.le_trans hS.1 z)) (m_cHi l E H_28.size bb u hU (Eqd d) (fun q z => by rw [z]; exact hDk.lt)) (lw_S q445 q446 q0 q447) hRb.no hl.1 rfl dL_law_278 ⟨by show _ ≤ 1200000; omega, by show _ ≤ 5502250; omega⟩) hS (fun q z => hA q (Nat.le_trans hS.1 z)) (fun q H_30 locs_30 hB hz_30 hk_30 hSn => ?_)
    have hNew := hB
    have hDk := hDk.keep hk_30
    have hRa := hRa.keep hk_30
    have hRb := hRb.keep hk_30
    have hS := hSn
    refine lv_astore_n (lv' := [(3, .ref q), (9, .int (nI (1 - od wh))), (8, .int (wh)), (7, .int (z)), (6, .int (y)), (5, .int (x)), (4, .int (nI k)), (1, .ref d), (2, .ref a), (0, .ref b)]) hx hb dL_law_281 rfl hl (by decide) rfl (fun ls hl => ?_)
    refine lv_goto (tgt := 498) hx hb dL_law_282 (by decide) ?_
    refine W.widen (k := 10 + 7 * k + 14) (n := 1000 + 700 * k + 1400) (by omega) (by omega) ?_
    exact t498 a q (t) (u.map hi) H_30 _ ls hDk hRa hNew hS (lv_sub hl [3, 6, 7, 8, 0, 9] rfl)
set_option maxHeartbeats 4000000 in
/-- case 8 -/
theorem law_j8 (l : Launch) {pp : Program} {ee : Env} {s : State} {mm : MethodId} {bw : List Frame} {me : Method} {cd : Code} {E : EvT} {b L d : Nat} {xs : Nat → Int32} (hF : CallFix pp mm cd code 12 s #[Value.ref b] lw_all R_law) (hr : me.sig.returnType = ret) (hlk : me.locks = false) (hE : Ev E (Nw s.heap.size) s s.heap) (hL : L ≤ 96) (hXs : va_X b L xs s s.heap) (hbl : b < s.heap.size) (hbA : ¬ Nw s.heap.size b) (hd : s.heap.size ≤ d) (k : Nat) (hk : k ≤ 96) (x y z wh : Int32) (t498 : ∀ (a bb : Nat) (t u : List Nat) (H : Heap) (locs : List Loc) (ls : Array Slot), (Dsk E H d t u) → (RA (eI E) (Eqd d) H a t.length (tb t)) → (RA (eI E) (Eqd d) H bb u.length (tb u)) → (va_S (Nw s.heap.size) s.heap H locs) → lv_has ls 12 [(7, .int (z)), (4, .int (nI k)), (1, .ref d), (2, .ref a), (3, .ref bb), (0, .ref b)] → W pp l ee room_1 s mm #[Value.ref b] bw me cd H locs (10 + 7 * k + 14) (1000 + 700 * k + 1400) (lw_Z bw #[Value.ref b] s) (F0 mm 498 ls [])) : ∀ (a bb : Nat) (t u : List Nat) (H : Heap) (locs : List Loc) (ls : Array Slot), (Dsk E H d t u) → (RA (eI E) (Eqd d) H a t.length (tb t)) → (RA (eI E) (Eqd d) H bb u.length (tb u)) → (va_S (Nw s.heap.size) s.heap H locs) → lv_has ls 12 [(9, .int (nI (1 - od wh))), (8, .int (wh)), (7, .int (z)), (6, .int (y)), (5, .int (x)), (4, .int (nI k)), (1, .ref d), (2, .ref a), (3, .ref bb), (0, .ref b)] → W pp l ee room_1 s mm #[Value.ref b] bw me cd H locs (10 + 7 * k) (1000 + 700 * k) (lw_Z bw #[Value.ref b] s) (F0 mm 401 ls []) := by
  have hx := hF.1
  have hb := hF.2.1
  have hA : ∀ q, s.heap.size ≤ q → Nw s.heap.size q := fun _ h => h
  intro a bb t u H locs ls hDk hRa hRb hS hl
  have hT : Tx t := by obtain ⟨_, _, _, h, _⟩ := hDk; exact h.1
  have hU : Tx u := by obtain ⟨_, _, _, _, h⟩ := hDk; exact h.1
  have h64 := hT.len
  have h65 := hU.len
  have hod := od_lt wh
  have hyy := y6_lt y
  have hO : od wh = 0 ∨ od wh = 1 := by omega
  rcases hO with ho | ho
  · skip
    refine lv_iload hx hb dL_law_401 (lv_at hl 0 rfl) ?_
    refine lv_if_eq (tgt := 411) hx hb dL_law_403 (by decide) (fun c_31 => absurd c_31 (fun z => absurd ((nI_z (by omega)).mp z) (by omega))) (fun c_31 => ?_)
    refine lv_aload_n hx hb dL_law_406 rfl (lv_at hl 7 rfl) ?_
    refine r_len hF hE 2 rfl hRa dL_law_407 ?_
    refine lv_goto (tgt := 413) hx hb dL_law_408 (by decide) ?_
    refine lv_bipush (v := nI 60) hx hb dL_law_413 (by decide) ?_
    refine lv_icmp_gt (tgt := 422) hx hb dL_law_415 (by decide) (fun c_32 => ?_) (fun c_32 => ?_)
    · skip
      have hcan : ¬ t.length ≤ 60 := fun z => absurd ((nI_ltI (by omega) (by omega)).mp c_32) (by omega)
      refine lv_iconst (v := nI 0) hx hb dL_law_422 (by decide) ?_
      refine lv_istore (lv' := [(10, .int (nI 0)), (9, .int (nI (1 - od wh))), (8, .int (wh)), (7, .int (z)), (6, .int (y)), (5, .int (x)), (4, .int (nI k)), (1, .ref d), (2, .ref a), (3, .ref bb), (0, .ref b)]) hx hb dL_law_423 hl (by decide) rfl (fun ls hl => ?_)
      refine lv_aload_n hx hb dL_law_425 rfl (lv_at hl 7 rfl) ?_
      refine lv_iload hx hb dL_law_426 (lv_at hl 2 rfl) ?_
      refine lv_iload hx hb dL_law_428 (lv_at hl 4 rfl) ?_
      refine lv_iload hx hb dL_law_430 (lv_at hl 3 rfl) ?_
      have hle : ¬ t.length ≤ 60 := hcan
      refine tQJ (uV 3 (rest := []) hF hE hS (fun q z => z.elim (fun h => by rw [h]; exact hd) (fun h => hA q (Nat.le_trans hS.1 h))) (m_X1_put l E H.size d t u (wh) y z) (lw_V q33 q34 q35 q1 q36) (hDk.recv hE) hDk hl.1 rfl dL_law_432 ⟨by show _ ≤ 1200000; omega, by show _ ≤ 5502250; omega⟩) hS (fun q z => z.elim (fun h => by rw [h]; exact hd) (fun h => hA q (Nat.le_trans hS.1 h))) (fun H_33 locs_33 hB hz_33 hk_33 hSn => ?_)
      have hDk : Dsk E H_33 d (t) (u) := by rw [if_pos ho, if_pos ho, two, if_neg hle] at hB; exact hB
      have hRa := hRa.st hk_33 (fun _ hq z => z.elim id (fun h => absurd hq (Nat.not_lt.mpr h)))
      have hRb := hRb.st hk_33 (fun _ hq z => z.elim id (fun h => absurd hq (Nat.not_lt.mpr h)))
      have hS := hSn
      refine w_to (nI 0) (by rw [if_pos ho, if_neg hle]) ?_
      refine lv_iload hx hb dL_law_435 (lv_at hl 0 rfl) ?_
      refine lv_icmp_eq (tgt := 442) hx hb dL_law_437 (by decide) (fun c_34 => ?_) (fun c_34 => absurd rfl c_34)
      refine lv_iload hx hb dL_law_442 (lv_at hl 0 rfl) ?_
      refine lv_if_eq (tgt := 470) hx hb dL_law_444 (by decide) (fun c_35 => ?_) (fun c_35 => absurd nI_0 c_35)
      refine lv_iload hx hb dL_law_470 (lv_at hl 0 rfl) ?_
      refine lv_if_eq (tgt := 498) hx hb dL_law_472 (by decide) (fun c_36 => ?_) (fun c_36 => absurd nI_0 c_36)
      refine W.widen (k := 10 + 7 * k + 14) (n := 1000 + 700 * k + 1400) (by omega) (by omega) ?_
      exact t498 a bb (t) (u) H_33 _ ls hDk hRa hRb hS (lv_sub hl [3, 6, 7, 8, 9, 10] rfl)
    · skip
      have hcan : t.length ≤ 60 := Nat.not_lt.mp (fun z => c_32 ((nI_ltI (by omega) (by omega)).mpr z))
      refine lv_iconst (v := nI 1) hx hb dL_law_418 (by decide) ?_
      refine lv_goto (tgt := 423) hx hb dL_law_419 (by decide) ?_
      refine lv_istore (lv' := [(10, .int (nI 1)), (9, .int (nI (1 - od wh))), (8, .int (wh)), (7, .int (z)), (6, .int (y)), (5, .int (x)), (4, .int (nI k)), (1, .ref d), (2, .ref a), (3, .ref bb), (0, .ref b)]) hx hb dL_law_423 hl (by decide) rfl (fun ls hl => ?_)
      refine lv_aload_n hx hb dL_law_425 rfl (lv_at hl 7 rfl) ?_
      refine lv_iload hx hb dL_law_426 (lv_at hl 2 rfl) ?_
      refine lv_iload hx hb dL_law_428 (lv_at hl 4 rfl) ?_
      refine lv_iload hx hb dL_law_430 (lv_at hl 3 rfl) ?_
      have hle : t.length ≤ 60 := hcan
      refine tQJ (uV 3 (rest := []) hF hE hS (fun q z => z.elim (fun h => by rw [h]; exact hd) (fun h => hA q (Nat.le_trans hS.1 h))) (m_X1_put l E H.size d t u (wh) y z) (lw_V q33 q34 q35 q1 q36) (hDk.recv hE) hDk hl.1 rfl dL_law_432 ⟨by show _ ≤ 1200000; omega, by show _ ≤ 5502250; omega⟩) hS (fun q z => z.elim (fun h => by rw [h]; exact hd) (fun h => hA q (Nat.le_trans hS.1 h))) (fun H_37 locs_37 hB hz_37 hk_37 hSn => ?_)
      have hDk : Dsk E H_37 d (t ++ [sg y, sg z]) (u) := by rw [if_pos ho, if_pos ho, two, if_pos hle] at hB; exact hB
      have hRa := hRa.st hk_37 (fun _ hq z => z.elim id (fun h => absurd hq (Nat.not_lt.mpr h)))
      have hRb := hRb.st hk_37 (fun _ hq z => z.elim id (fun h => absurd hq (Nat.not_lt.mpr h)))
      have hS := hSn
      refine w_to (nI 1) (by rw [if_pos ho, if_pos hle]) ?_
      refine lv_iload hx hb dL_law_435 (lv_at hl 0 rfl) ?_
      refine lv_icmp_eq (tgt := 442) hx hb dL_law_437 (by decide) (fun c_38 => ?_) (fun c_38 => absurd rfl c_38)
      refine lv_iload hx hb dL_law_442 (lv_at hl 0 rfl) ?_
      refine lv_if_eq (tgt := 470) hx hb dL_law_444 (by decide) (fun c_39 => absurd c_39 (by decide)) (fun c_39 => ?_)
      refine lv_iload hx hb dL_law_447 (lv_at hl 1 rfl) ?_
      refine lv_if_eq (tgt := 470) hx hb dL_law_449 (by decide) (fun c_40 => absurd c_40 (fun z => absurd ((nI_z (by omega)).mp z) (by omega))) (fun c_40 => ?_)
      refine lv_aload_n hx hb dL_law_452 rfl (lv_at hl 8 rfl) ?_
      refine lv_iload hx hb dL_law_453 (lv_at hl 4 rfl) ?_
      refine tI (v := nI (sg y)) (uS 1 (rest := [.ref a]) hF hE hS (fun _ z => absurd z id) (m_X0_sign l E H_37.size y) (lw_S q435 q436 q0 q437) trivial hl.1 rfl dL_law_455 ⟨by show _ ≤ 1200000; omega, by show _ ≤ 5502250; omega⟩) ?_
      refine tQR (uS 2 (rest := []) hF hE hS (fun q z => hA q (Nat.le_trans hS.1 z)) (m_more l E H_37.size a t hT (sg y) (sg_lt y) (by omega) (Eqd d) (fun q z => by rw [z]; exact hDk.lt)) (lw_S q438 q439 q0 q440) hRa.no hl.1 rfl dL_law_458 ⟨by show _ ≤ 1200000; omega, by show _ ≤ 5502250; omega⟩) hS (fun q z => hA q (Nat.le_trans hS.1 z)) (fun q1 H_41 locs_41 hB hz_41 hk_41 hSn => ?_)
      have hNew := hB
      have hDk := hDk.keep hk_41
      have hRa := hRa.keep hk_41
      have hRb := hRb.keep hk_41
      have hS := hSn
      refine lv_iload hx hb dL_law_461 (lv_at hl 3 rfl) ?_
      refine tI (v := nI (sg z)) (uS 1 (rest := [.ref q1]) hF hE hS (fun _ z => absurd z id) (m_X0_sign l E H_41.size z) (lw_S q435 q436 q0 q437) trivial hl.1 rfl dL_law_463 ⟨by show _ ≤ 1200000; omega, by show _ ≤ 5502250; omega⟩) ?_
      have hT1 := one_tx hT (by omega) (sg_lt y)
      have hl1 : (t ++ [sg y]).length = t.length + 1 := by rw [List.length_append]; rfl
      have hN1 := hNew
      refine tQR (uS 2 (rest := []) hF hE hS (fun q z => hA q (Nat.le_trans hS.1 z)) (m_more l E H_41.size q1 (t ++ [sg y]) hT1 (sg z) (sg_lt z) (by omega) (Eqd d) (fun q z => by rw [z]; exact hDk.lt)) (lw_S q438 q439 q0 q440) hN1.no hl.1 rfl dL_law_466 ⟨by show _ ≤ 1200000; omega, by show _ ≤ 5502250; omega⟩) hS (fun q z => hA q (Nat.le_trans hS.1 z)) (fun q2 H_42 locs_42 hB hz_42 hk_42 hSn => ?_)
      have hNew := hB
      have hDk := hDk.keep hk_42
      have hRa := hRa.keep hk_42
      have hRb := hRb.keep hk_42
      have hS := hSn
      rw [app2] at hNew
      refine lv_astore_n (lv' := [(2, .ref q2), (10, .int (nI 1)), (9, .int (nI (1 - od wh))), (8, .int (wh)), (7, .int (z)), (6, .int (y)), (5, .int (x)), (4, .int (nI k)), (1, .ref d), (3, .ref bb), (0, .ref b)]) hx hb dL_law_469 rfl hl (by decide) rfl (fun ls hl => ?_)
      refine lv_iload hx hb dL_law_470 (lv_at hl 1 rfl) ?_
      refine lv_if_eq (tgt := 498) hx hb dL_law_472 (by decide) (fun c_43 => absurd c_43 (by decide)) (fun c_43 => ?_)
      refine lv_iload hx hb dL_law_475 (lv_at hl 2 rfl) ?_
      refine lv_if_ne (tgt := 498) hx hb dL_law_477 (by decide) (fun c_44 => ?_) (fun c_44 => absurd c_44 (fun z => absurd ((nI_z (by omega)).mp z) (by omega)))
      refine W.widen (k := 10 + 7 * k + 14) (n := 1000 + 700 * k + 1400) (by omega) (by omega) ?_
      exact t498 q2 bb (t ++ [sg y, sg z]) (u) H_42 _ ls hDk hNew hRb hS (lv_sub hl [4, 7, 8, 0, 9, 10] rfl)
  · skip
    have hn : ¬ od wh = 0 := by omega
    refine lv_iload hx hb dL_law_401 (lv_at hl 0 rfl) ?_
    refine lv_if_eq (tgt := 411) hx hb dL_law_403 (by decide) (fun c_45 => ?_) (fun c_45 => absurd ((nI_z (by omega)).mpr (by omega)) c_45)
    refine lv_aload_n hx hb dL_law_411 rfl (lv_at hl 8 rfl) ?_
    refine r_len hF hE 2 rfl hRb dL_law_412 ?_
    refine lv_bipush (v := nI 60) hx hb dL_law_413 (by decide) ?_
    refine lv_icmp_gt (tgt := 422) hx hb dL_law_415 (by decide) (fun c_46 => ?_) (fun c_46 => ?_)
    · skip
      have hcan : ¬ u.length ≤ 60 := fun z => absurd ((nI_ltI (by omega) (by omega)).mp c_46) (by omega)
      refine lv_iconst (v := nI 0) hx hb dL_law_422 (by decide) ?_
      refine lv_istore (lv' := [(10, .int (nI 0)), (9, .int (nI (1 - od wh))), (8, .int (wh)), (7, .int (z)), (6, .int (y)), (5, .int (x)), (4, .int (nI k)), (1, .ref d), (2, .ref a), (3, .ref bb), (0, .ref b)]) hx hb dL_law_423 hl (by decide) rfl (fun ls hl => ?_)
      refine lv_aload_n hx hb dL_law_425 rfl (lv_at hl 7 rfl) ?_
      refine lv_iload hx hb dL_law_426 (lv_at hl 2 rfl) ?_
      refine lv_iload hx hb dL_law_428 (lv_at hl 4 rfl) ?_
      refine lv_iload hx hb dL_law_430 (lv_at hl 3 rfl) ?_
      have hle : ¬ u.length ≤ 60 := hcan
      refine tQJ (uV 3 (rest := []) hF hE hS (fun q z => z.elim (fun h => by rw [h]; exact hd) (fun h => hA q (Nat.le_trans hS.1 h))) (m_X1_put l E H.size d t u (wh) y z) (lw_V q33 q34 q35 q1 q36) (hDk.recv hE) hDk hl.1 rfl dL_law_432 ⟨by show _ ≤ 1200000; omega, by show _ ≤ 5502250; omega⟩) hS (fun q z => z.elim (fun h => by rw [h]; exact hd) (fun h => hA q (Nat.le_trans hS.1 h))) (fun H_47 locs_47 hB hz_47 hk_47 hSn => ?_)
      have hDk : Dsk E H_47 d (t) (u) := by rw [if_neg hn, if_neg hn, two, if_neg hle] at hB; exact hB
      have hRa := hRa.st hk_47 (fun _ hq z => z.elim id (fun h => absurd hq (Nat.not_lt.mpr h)))
      have hRb := hRb.st hk_47 (fun _ hq z => z.elim id (fun h => absurd hq (Nat.not_lt.mpr h)))
      have hS := hSn
      refine w_to (nI 0) (by rw [if_neg hn, if_neg hle]) ?_
      refine lv_iload hx hb dL_law_435 (lv_at hl 0 rfl) ?_
      refine lv_icmp_eq (tgt := 442) hx hb dL_law_437 (by decide) (fun c_48 => ?_) (fun c_48 => absurd rfl c_48)
      refine lv_iload hx hb dL_law_442 (lv_at hl 0 rfl) ?_
      refine lv_if_eq (tgt := 470) hx hb dL_law_444 (by decide) (fun c_49 => ?_) (fun c_49 => absurd nI_0 c_49)
      refine lv_iload hx hb dL_law_470 (lv_at hl 0 rfl) ?_
      refine lv_if_eq (tgt := 498) hx hb dL_law_472 (by decide) (fun c_50 => ?_) (fun c_50 => absurd nI_0 c_50)
      refine W.widen (k := 10 + 7 * k + 14) (n := 1000 + 700 * k + 1400) (by omega) (by omega) ?_
      exact t498 a bb (t) (u) H_47 _ ls hDk hRa hRb hS (lv_sub hl [3, 6, 7, 8, 9, 10] rfl)
    · skip
      have hcan : u.length ≤ 60 := Nat.not_lt.mp (fun z => c_46 ((nI_ltI (by omega) (by omega)).mpr z))
      refine lv_iconst (v := nI 1) hx hb dL_law_418 (by decide) ?_
      refine lv_goto (tgt := 423) hx hb dL_law_419 (by decide) ?_
      refine lv_istore (lv' := [(10, .int (nI 1)), (9, .int (nI (1 - od wh))), (8, .int (wh)), (7, .int (z)), (6, .int (y)), (5, .int (x)), (4, .int (nI k)), (1, .ref d), (2, .ref a), (3, .ref bb), (0, .ref b)]) hx hb dL_law_423 hl (by decide) rfl (fun ls hl => ?_)
      refine lv_aload_n hx hb dL_law_425 rfl (lv_at hl 7 rfl) ?_
      refine lv_iload hx hb dL_law_426 (lv_at hl 2 rfl) ?_
      refine lv_iload hx hb dL_law_428 (lv_at hl 4 rfl) ?_
      refine lv_iload hx hb dL_law_430 (lv_at hl 3 rfl) ?_
      have hle : u.length ≤ 60 := hcan
      refine tQJ (uV 3 (rest := []) hF hE hS (fun q z => z.elim (fun h => by rw [h]; exact hd) (fun h => hA q (Nat.le_trans hS.1 h))) (m_X1_put l E H.size d t u (wh) y z) (lw_V q33 q34 q35 q1 q36) (hDk.recv hE) hDk hl.1 rfl dL_law_432 ⟨by show _ ≤ 1200000; omega, by show _ ≤ 5502250; omega⟩) hS (fun q z => z.elim (fun h => by rw [h]; exact hd) (fun h => hA q (Nat.le_trans hS.1 h))) (fun H_51 locs_51 hB hz_51 hk_51 hSn => ?_)
      have hDk : Dsk E H_51 d (t) (u ++ [sg y, sg z]) := by rw [if_neg hn, if_neg hn, two, if_pos hle] at hB; exact hB
      have hRa := hRa.st hk_51 (fun _ hq z => z.elim id (fun h => absurd hq (Nat.not_lt.mpr h)))
      have hRb := hRb.st hk_51 (fun _ hq z => z.elim id (fun h => absurd hq (Nat.not_lt.mpr h)))
      have hS := hSn
      refine w_to (nI 1) (by rw [if_neg hn, if_pos hle]) ?_
      refine lv_iload hx hb dL_law_435 (lv_at hl 0 rfl) ?_
      refine lv_icmp_eq (tgt := 442) hx hb dL_law_437 (by decide) (fun c_52 => ?_) (fun c_52 => absurd rfl c_52)
      refine lv_iload hx hb dL_law_442 (lv_at hl 0 rfl) ?_
      refine lv_if_eq (tgt := 470) hx hb dL_law_444 (by decide) (fun c_53 => absurd c_53 (by decide)) (fun c_53 => ?_)
      refine lv_iload hx hb dL_law_447 (lv_at hl 1 rfl) ?_
      refine lv_if_eq (tgt := 470) hx hb dL_law_449 (by decide) (fun c_54 => ?_) (fun c_54 => absurd ((nI_z (by omega)).mpr (by omega)) c_54)
      refine lv_iload hx hb dL_law_470 (lv_at hl 0 rfl) ?_
      refine lv_if_eq (tgt := 498) hx hb dL_law_472 (by decide) (fun c_55 => absurd c_55 (by decide)) (fun c_55 => ?_)
      refine lv_iload hx hb dL_law_475 (lv_at hl 1 rfl) ?_
      refine lv_if_ne (tgt := 498) hx hb dL_law_477 (by decide) (fun c_56 => absurd ((nI_z (by omega)).mpr (by omega)) c_56) (fun c_56 => ?_)
      refine lv_aload_n hx hb dL_law_480 rfl (lv_at hl 9 rfl) ?_
      refine lv_iload hx hb dL_law_481 (lv_at hl 4 rfl) ?_
      refine tI (v := nI (sg y)) (uS 1 (rest := [.ref bb]) hF hE hS (fun _ z => absurd z id) (m_X0_sign l E H_51.size y) (lw_S q435 q436 q0 q437) trivial hl.1 rfl dL_law_483 ⟨by show _ ≤ 1200000; omega, by show _ ≤ 5502250; omega⟩) ?_
      refine tQR (uS 2 (rest := []) hF hE hS (fun q z => hA q (Nat.le_trans hS.1 z)) (m_more l E H_51.size bb u hU (sg y) (sg_lt y) (by omega) (Eqd d) (fun q z => by rw [z]; exact hDk.lt)) (lw_S q438 q439 q0 q440) hRb.no hl.1 rfl dL_law_486 ⟨by show _ ≤ 1200000; omega, by show _ ≤ 5502250; omega⟩) hS (fun q z => hA q (Nat.le_trans hS.1 z)) (fun q1 H_57 locs_57 hB hz_57 hk_57 hSn => ?_)
      have hNew := hB
      have hDk := hDk.keep hk_57
      have hRa := hRa.keep hk_57
      have hRb := hRb.keep hk_57
      have hS := hSn
      refine lv_iload hx hb dL_law_489 (lv_at hl 3 rfl) ?_
      refine tI (v := nI (sg z)) (uS 1 (rest := [.ref q1]) hF hE hS (fun _ z => absurd z id) (m_X0_sign l E H_57.size z) (lw_S q435 q436 q0 q437) trivial hl.1 rfl dL_law_491 ⟨by show _ ≤ 1200000; omega, by show _ ≤ 5502250; omega⟩) ?_
      have hT1 := one_tx hU (by omega) (sg_lt y)
      have hl1 : (u ++ [sg y]).length = u.length + 1 := by rw [List.length_append]; rfl
      have hN1 := hNew
      refine tQR (uS 2 (rest := []) hF hE hS (fun q z => hA q (Nat.le_trans hS.1 z)) (m_more l E H_57.size q1 (u ++ [sg y]) hT1 (sg z) (sg_lt z) (by omega) (Eqd d) (fun q z => by rw [z]; exact hDk.lt)) (lw_S q438 q439 q0 q440) hN1.no hl.1 rfl dL_law_494 ⟨by show _ ≤ 1200000; omega, by show _ ≤ 5502250; omega⟩) hS (fun q z => hA q (Nat.le_trans hS.1 z)) (fun q2 H_58 locs_58 hB hz_58 hk_58 hSn => ?_)
      have hNew := hB
      have hDk := hDk.keep hk_58
      have hRa := hRa.keep hk_58
      have hRb := hRb.keep hk_58
      have hS := hSn
      rw [app2] at hNew
      refine lv_astore_n (lv' := [(3, .ref q2), (10, .int (nI 1)), (9, .int (nI (1 - od wh))), (8, .int (wh)), (7, .int (z)), (6, .int (y)), (5, .int (x)), (4, .int (nI k)), (1, .ref d), (2, .ref a), (0, .ref b)]) hx hb dL_law_497 rfl hl (by decide) rfl (fun ls hl => ?_)
      refine W.widen (k := 10 + 7 * k + 14) (n := 1000 + 700 * k + 1400) (by omega) (by omega) ?_
      exact t498 a q2 (t) (u ++ [sg y, sg z]) H_58 _ ls hDk hRa hNew hS (lv_sub hl [4, 7, 8, 9, 0, 10] rfl)
set_option maxHeartbeats 4000000 in
/-- the second round of case 7 -/
theorem law_r1 (l : Launch) {pp : Program} {ee : Env} {s : State} {mm : MethodId} {bw : List Frame} {me : Method} {cd : Code} {E : EvT} {b L d : Nat} {xs : Nat → Int32} (hF : CallFix pp mm cd code 12 s #[Value.ref b] lw_all R_law) (hr : me.sig.returnType = ret) (hlk : me.locks = false) (hE : Ev E (Nw s.heap.size) s s.heap) (hL : L ≤ 96) (hXs : va_X b L xs s s.heap) (hbl : b < s.heap.size) (hbA : ¬ Nw s.heap.size b) (hd : s.heap.size ≤ d) (k : Nat) (hk : k ≤ 96) (x y z wh : Int32) (t498 : ∀ (a bb : Nat) (t u : List Nat) (H : Heap) (locs : List Loc) (ls : Array Slot), (Dsk E H d t u) → (RA (eI E) (Eqd d) H a t.length (tb t)) → (RA (eI E) (Eqd d) H bb u.length (tb u)) → (va_S (Nw s.heap.size) s.heap H locs) → lv_has ls 12 [(7, .int (z)), (4, .int (nI k)), (1, .ref d), (2, .ref a), (3, .ref bb), (0, .ref b)] → W pp l ee room_1 s mm #[Value.ref b] bw me cd H locs (10 + 7 * k + 14) (1000 + 700 * k + 1400) (lw_Z bw #[Value.ref b] s) (F0 mm 498 ls [])) : ∀ (a bb : Nat) (t u : List Nat) (H : Heap) (locs : List Loc) (ls : Array Slot), (Dsk E H d t u) → (RA (eI E) (Eqd d) H a t.length (tb t)) → (RA (eI E) (Eqd d) H bb u.length (tb u)) → (va_S (Nw s.heap.size) s.heap H locs) → lv_has ls 12 [(10, .int (nI 1)), (9, .int (nI (1 - od wh))), (8, .int (wh)), (7, .int (z)), (6, .int (y)), (5, .int (x)), (4, .int (nI k)), (1, .ref d), (2, .ref a), (3, .ref bb), (0, .ref b)] → W pp l ee room_1 s mm #[Value.ref b] bw me cd H locs (10 + 7 * k + 6) (1000 + 700 * k + 508) (lw_Z bw #[Value.ref b] s) (F0 mm 288 ls []) := by
  have hx := hF.1
  have hb := hF.2.1
  have hA : ∀ q, s.heap.size ≤ q → Nw s.heap.size q := fun _ h => h
  intro a bb t u H locs ls hDk hRa hRb hS hl
  have hT : Tx t := by obtain ⟨_, _, _, h, _⟩ := hDk; exact h.1
  have hU : Tx u := by obtain ⟨_, _, _, _, h⟩ := hDk; exact h.1
  have h64 := hT.len
  have h65 := hU.len
  have ho : od (nI 1) = 1 := by decide
  have hoo : ¬ od (nI 1) = 0 := by omega
  refine lv_iload hx hb dL_law_288 (lv_at hl 0 rfl) ?_
  refine lv_iconst (v := nI 2) hx hb dL_law_290 (by decide) ?_
  refine lv_icmp_ge (tgt := 398) hx hb dL_law_291 (by decide) (fun c_59 => absurd c_59 (fun z => absurd ((nI_leI (by omega) (by omega)).mp z) (by decide))) (fun c_59 => ?_)
  refine lv_iload hx hb dL_law_294 (lv_at hl 0 rfl) ?_
  refine lv_if_ne (tgt := 304) hx hb dL_law_296 (by decide) (fun c_60 => ?_) (fun c_60 => absurd c_60 (by decide))
  refine lv_aload_n hx hb dL_law_304 rfl (lv_at hl 9 rfl) ?_
  refine r_len hF hE 2 rfl hRb dL_law_305 ?_
  refine lv_bipush (v := nI 60) hx hb dL_law_306 (by decide) ?_
  refine lv_icmp_gt (tgt := 315) hx hb dL_law_308 (by decide) (fun c_61 => ?_) (fun c_61 => ?_)
  · skip
    have hcan : ¬ u.length ≤ 60 := fun z => absurd ((nI_ltI (by omega) (by omega)).mp c_61) (by omega)
    refine lv_iconst (v := nI 0) hx hb dL_law_315 (by decide) ?_
    refine lv_istore (lv' := [(11, .int (nI 0)), (10, .int (nI 1)), (9, .int (nI (1 - od wh))), (8, .int (wh)), (7, .int (z)), (6, .int (y)), (5, .int (x)), (4, .int (nI k)), (1, .ref d), (2, .ref a), (3, .ref bb), (0, .ref b)]) hx hb dL_law_316 hl (by decide) rfl (fun ls hl => ?_)
    refine lv_aload_n hx hb dL_law_318 rfl (lv_at hl 8 rfl) ?_
    refine lv_iload hx hb dL_law_319 (lv_at hl 1 rfl) ?_
    refine lv_iload hx hb dL_law_321 (lv_at hl 5 rfl) ?_
    refine lv_iload hx hb dL_law_323 (lv_at hl 4 rfl) ?_
    have hle : ¬ u.length ≤ 60 := hcan
    refine tQJ (uV 3 (rest := []) hF hE hS (fun q z => z.elim (fun h => by rw [h]; exact hd) (fun h => hA q (Nat.le_trans hS.1 h))) (m_X1_put l E H.size d t u (nI 1) y z) (lw_V q33 q34 q35 q1 q36) (hDk.recv hE) hDk hl.1 rfl dL_law_325 ⟨by show _ ≤ 1200000; omega, by show _ ≤ 5502250; omega⟩) hS (fun q z => z.elim (fun h => by rw [h]; exact hd) (fun h => hA q (Nat.le_trans hS.1 h))) (fun H_62 locs_62 hB hz_62 hk_62 hSn => ?_)
    have hDk : Dsk E H_62 d (t) (u) := by rw [if_neg hoo, if_neg hoo, two, if_neg hle] at hB; exact hB
    have hRa := hRa.st hk_62 (fun _ hq z => z.elim id (fun h => absurd hq (Nat.not_lt.mpr h)))
    have hRb := hRb.st hk_62 (fun _ hq z => z.elim id (fun h => absurd hq (Nat.not_lt.mpr h)))
    have hS := hSn
    refine w_to (nI 0) (by rw [if_neg hoo, if_neg hle]) ?_
    refine lv_iload hx hb dL_law_328 (lv_at hl 0 rfl) ?_
    refine lv_icmp_eq (tgt := 335) hx hb dL_law_330 (by decide) (fun c_63 => ?_) (fun c_63 => absurd rfl c_63)
    refine lv_iload hx hb dL_law_335 (lv_at hl 0 rfl) ?_
    refine lv_if_eq (tgt := 363) hx hb dL_law_337 (by decide) (fun c_64 => ?_) (fun c_64 => absurd nI_0 c_64)
    refine lv_iload hx hb dL_law_363 (lv_at hl 0 rfl) ?_
    refine lv_if_eq (tgt := 392) hx hb dL_law_365 (by decide) (fun c_65 => ?_) (fun c_65 => absurd nI_0 c_65)
    refine lv_iinc (v := nI (1 + 1)) (lv' := [(10, .int (nI (1 + 1))), (11, .int (nI 0)), (9, .int (nI (1 - od wh))), (8, .int (wh)), (7, .int (z)), (6, .int (y)), (5, .int (x)), (4, .int (nI k)), (1, .ref d), (2, .ref a), (3, .ref bb), (0, .ref b)]) hx hb dL_law_392 hl (k := 1) rfl (nI_add 1 1) (by decide) rfl (fun ls hl => ?_)
    refine lv_goto (tgt := 288) hx hb dL_law_395 (by decide) ?_
    refine lv_iload hx hb dL_law_288 (lv_at hl 0 rfl) ?_
    refine lv_iconst (v := nI 2) hx hb dL_law_290 (by decide) ?_
    refine lv_icmp_ge (tgt := 398) hx hb dL_law_291 (by decide) (fun c_66 => ?_) (fun c_66 => absurd ((nI_leI (by omega) (by omega)).mpr (by decide)) c_66)
    refine lv_goto (tgt := 498) hx hb dL_law_398 (by decide) ?_
    refine W.widen (k := 10 + 7 * k + 14) (n := 1000 + 700 * k + 1400) (by omega) (by omega) ?_
    exact t498 a bb (t) (u) H_62 _ ls hDk hRa hRb hS (lv_sub hl [4, 7, 8, 9, 10, 11] rfl)
  · skip
    have hcan : u.length ≤ 60 := Nat.not_lt.mp (fun z => c_61 ((nI_ltI (by omega) (by omega)).mpr z))
    refine lv_iconst (v := nI 1) hx hb dL_law_311 (by decide) ?_
    refine lv_goto (tgt := 316) hx hb dL_law_312 (by decide) ?_
    refine lv_istore (lv' := [(11, .int (nI 1)), (10, .int (nI 1)), (9, .int (nI (1 - od wh))), (8, .int (wh)), (7, .int (z)), (6, .int (y)), (5, .int (x)), (4, .int (nI k)), (1, .ref d), (2, .ref a), (3, .ref bb), (0, .ref b)]) hx hb dL_law_316 hl (by decide) rfl (fun ls hl => ?_)
    refine lv_aload_n hx hb dL_law_318 rfl (lv_at hl 8 rfl) ?_
    refine lv_iload hx hb dL_law_319 (lv_at hl 1 rfl) ?_
    refine lv_iload hx hb dL_law_321 (lv_at hl 5 rfl) ?_
    refine lv_iload hx hb dL_law_323 (lv_at hl 4 rfl) ?_
    have hle : u.length ≤ 60 := hcan
    refine tQJ (uV 3 (rest := []) hF hE hS (fun q z => z.elim (fun h => by rw [h]; exact hd) (fun h => hA q (Nat.le_trans hS.1 h))) (m_X1_put l E H.size d t u (nI 1) y z) (lw_V q33 q34 q35 q1 q36) (hDk.recv hE) hDk hl.1 rfl dL_law_325 ⟨by show _ ≤ 1200000; omega, by show _ ≤ 5502250; omega⟩) hS (fun q z => z.elim (fun h => by rw [h]; exact hd) (fun h => hA q (Nat.le_trans hS.1 h))) (fun H_67 locs_67 hB hz_67 hk_67 hSn => ?_)
    have hDk : Dsk E H_67 d (t) (u ++ [sg y, sg z]) := by rw [if_neg hoo, if_neg hoo, two, if_pos hle] at hB; exact hB
    have hRa := hRa.st hk_67 (fun _ hq z => z.elim id (fun h => absurd hq (Nat.not_lt.mpr h)))
    have hRb := hRb.st hk_67 (fun _ hq z => z.elim id (fun h => absurd hq (Nat.not_lt.mpr h)))
    have hS := hSn
    refine w_to (nI 1) (by rw [if_neg hoo, if_pos hle]) ?_
    refine lv_iload hx hb dL_law_328 (lv_at hl 0 rfl) ?_
    refine lv_icmp_eq (tgt := 335) hx hb dL_law_330 (by decide) (fun c_68 => ?_) (fun c_68 => absurd rfl c_68)
    refine lv_iload hx hb dL_law_335 (lv_at hl 0 rfl) ?_
    refine lv_if_eq (tgt := 363) hx hb dL_law_337 (by decide) (fun c_69 => absurd c_69 (by decide)) (fun c_69 => ?_)
    refine lv_iload hx hb dL_law_340 (lv_at hl 1 rfl) ?_
    refine lv_if_ne (tgt := 363) hx hb dL_law_342 (by decide) (fun c_70 => ?_) (fun c_70 => absurd c_70 (by decide))
    refine lv_iload hx hb dL_law_363 (lv_at hl 0 rfl) ?_
    refine lv_if_eq (tgt := 392) hx hb dL_law_365 (by decide) (fun c_71 => absurd c_71 (by decide)) (fun c_71 => ?_)
    refine lv_iload hx hb dL_law_368 (lv_at hl 1 rfl) ?_
    refine lv_iconst (v := nI 1) hx hb dL_law_370 (by decide) ?_
    refine lv_icmp_ne (tgt := 392) hx hb dL_law_371 (by decide) (fun c_72 => absurd rfl c_72) (fun c_72 => ?_)
    refine lv_aload_n hx hb dL_law_374 rfl (lv_at hl 10 rfl) ?_
    refine lv_iload hx hb dL_law_375 (lv_at hl 5 rfl) ?_
    refine tI (v := nI (sg y)) (uS 1 (rest := [.ref bb]) hF hE hS (fun _ z => absurd z id) (m_X0_sign l E H_67.size y) (lw_S q435 q436 q0 q437) trivial hl.1 rfl dL_law_377 ⟨by show _ ≤ 1200000; omega, by show _ ≤ 5502250; omega⟩) ?_
    refine tQR (uS 2 (rest := []) hF hE hS (fun q z => hA q (Nat.le_trans hS.1 z)) (m_more l E H_67.size bb u hU (sg y) (sg_lt y) (by omega) (Eqd d) (fun q z => by rw [z]; exact hDk.lt)) (lw_S q438 q439 q0 q440) hRb.no hl.1 rfl dL_law_380 ⟨by show _ ≤ 1200000; omega, by show _ ≤ 5502250; omega⟩) hS (fun q z => hA q (Nat.le_trans hS.1 z)) (fun q1 H_73 locs_73 hB hz_73 hk_73 hSn => ?_)
    have hNew := hB
    have hDk := hDk.keep hk_73
    have hRa := hRa.keep hk_73
    have hRb := hRb.keep hk_73
    have hS := hSn
    refine lv_iload hx hb dL_law_383 (lv_at hl 4 rfl) ?_
    refine tI (v := nI (sg z)) (uS 1 (rest := [.ref q1]) hF hE hS (fun _ z => absurd z id) (m_X0_sign l E H_73.size z) (lw_S q435 q436 q0 q437) trivial hl.1 rfl dL_law_385 ⟨by show _ ≤ 1200000; omega, by show _ ≤ 5502250; omega⟩) ?_
    have hT1 := one_tx hU (by omega) (sg_lt y)
    have hl1 : (u ++ [sg y]).length = u.length + 1 := by rw [List.length_append]; rfl
    have hN1 := hNew
    refine tQR (uS 2 (rest := []) hF hE hS (fun q z => hA q (Nat.le_trans hS.1 z)) (m_more l E H_73.size q1 (u ++ [sg y]) hT1 (sg z) (sg_lt z) (by omega) (Eqd d) (fun q z => by rw [z]; exact hDk.lt)) (lw_S q438 q439 q0 q440) hN1.no hl.1 rfl dL_law_388 ⟨by show _ ≤ 1200000; omega, by show _ ≤ 5502250; omega⟩) hS (fun q z => hA q (Nat.le_trans hS.1 z)) (fun q2 H_74 locs_74 hB hz_74 hk_74 hSn => ?_)
    have hNew := hB
    have hDk := hDk.keep hk_74
    have hRa := hRa.keep hk_74
    have hRb := hRb.keep hk_74
    have hS := hSn
    rw [app2] at hNew
    refine lv_astore_n (lv' := [(3, .ref q2), (11, .int (nI 1)), (10, .int (nI 1)), (9, .int (nI (1 - od wh))), (8, .int (wh)), (7, .int (z)), (6, .int (y)), (5, .int (x)), (4, .int (nI k)), (1, .ref d), (2, .ref a), (0, .ref b)]) hx hb dL_law_391 rfl hl (by decide) rfl (fun ls hl => ?_)
    refine lv_iinc (v := nI (1 + 1)) (lv' := [(10, .int (nI (1 + 1))), (3, .ref q2), (11, .int (nI 1)), (9, .int (nI (1 - od wh))), (8, .int (wh)), (7, .int (z)), (6, .int (y)), (5, .int (x)), (4, .int (nI k)), (1, .ref d), (2, .ref a), (0, .ref b)]) hx hb dL_law_392 hl (k := 2) rfl (nI_add 1 1) (by decide) rfl (fun ls hl => ?_)
    refine lv_goto (tgt := 288) hx hb dL_law_395 (by decide) ?_
    refine lv_iload hx hb dL_law_288 (lv_at hl 0 rfl) ?_
    refine lv_iconst (v := nI 2) hx hb dL_law_290 (by decide) ?_
    refine lv_icmp_ge (tgt := 398) hx hb dL_law_291 (by decide) (fun c_75 => ?_) (fun c_75 => absurd ((nI_leI (by omega) (by omega)).mpr (by decide)) c_75)
    refine lv_goto (tgt := 498) hx hb dL_law_398 (by decide) ?_
    refine W.widen (k := 10 + 7 * k + 14) (n := 1000 + 700 * k + 1400) (by omega) (by omega) ?_
    exact t498 a q2 (t) (u ++ [sg y, sg z]) H_74 _ ls hDk hRa hNew hS (lv_sub hl [5, 8, 9, 10, 1, 11] rfl)
set_option maxHeartbeats 4000000 in
/-- the first round of case 7 -/
theorem law_r0 (l : Launch) {pp : Program} {ee : Env} {s : State} {mm : MethodId} {bw : List Frame} {me : Method} {cd : Code} {E : EvT} {b L d : Nat} {xs : Nat → Int32} (hF : CallFix pp mm cd code 12 s #[Value.ref b] lw_all R_law) (hr : me.sig.returnType = ret) (hlk : me.locks = false) (hE : Ev E (Nw s.heap.size) s s.heap) (hL : L ≤ 96) (hXs : va_X b L xs s s.heap) (hbl : b < s.heap.size) (hbA : ¬ Nw s.heap.size b) (hd : s.heap.size ≤ d) (k : Nat) (hk : k ≤ 96) (x y z wh : Int32) (r1 : ∀ (a bb : Nat) (t u : List Nat) (H : Heap) (locs : List Loc) (ls : Array Slot), (Dsk E H d t u) → (RA (eI E) (Eqd d) H a t.length (tb t)) → (RA (eI E) (Eqd d) H bb u.length (tb u)) → (va_S (Nw s.heap.size) s.heap H locs) → lv_has ls 12 [(10, .int (nI 1)), (9, .int (nI (1 - od wh))), (8, .int (wh)), (7, .int (z)), (6, .int (y)), (5, .int (x)), (4, .int (nI k)), (1, .ref d), (2, .ref a), (3, .ref bb), (0, .ref b)] → W pp l ee room_1 s mm #[Value.ref b] bw me cd H locs (10 + 7 * k + 6) (1000 + 700 * k + 508) (lw_Z bw #[Value.ref b] s) (F0 mm 288 ls [])) : ∀ (a bb : Nat) (t u : List Nat) (H : Heap) (locs : List Loc) (ls : Array Slot), (Dsk E H d t u) → (RA (eI E) (Eqd d) H a t.length (tb t)) → (RA (eI E) (Eqd d) H bb u.length (tb u)) → (va_S (Nw s.heap.size) s.heap H locs) → lv_has ls 12 [(10, .int (nI 0)), (9, .int (nI (1 - od wh))), (8, .int (wh)), (7, .int (z)), (6, .int (y)), (5, .int (x)), (4, .int (nI k)), (1, .ref d), (2, .ref a), (3, .ref bb), (0, .ref b)] → W pp l ee room_1 s mm #[Value.ref b] bw me cd H locs (10 + 7 * k) (1000 + 700 * k) (lw_Z bw #[Value.ref b] s) (F0 mm 288 ls []) := by
  have hx := hF.1
  have hb := hF.2.1
  have hA : ∀ q, s.heap.size ≤ q → Nw s.heap.size q := fun _ h => h
  intro a bb t u H locs ls hDk hRa hRb hS hl
  have hT : Tx t := by obtain ⟨_, _, _, h, _⟩ := hDk; exact h.1
  have hU : Tx u := by obtain ⟨_, _, _, _, h⟩ := hDk; exact h.1
  have h64 := hT.len
  have h65 := hU.len
  have ho : od (nI 0) = 0 := by decide
  have hoo : od (nI 0) = 0 := by omega
  refine lv_iload hx hb dL_law_288 (lv_at hl 0 rfl) ?_
  refine lv_iconst (v := nI 2) hx hb dL_law_290 (by decide) ?_
  refine lv_icmp_ge (tgt := 398) hx hb dL_law_291 (by decide) (fun c_76 => absurd c_76 (fun z => absurd ((nI_leI (by omega) (by omega)).mp z) (by decide))) (fun c_76 => ?_)
  refine lv_iload hx hb dL_law_294 (lv_at hl 0 rfl) ?_
  refine lv_if_ne (tgt := 304) hx hb dL_law_296 (by decide) (fun c_77 => absurd nI_0 c_77) (fun c_77 => ?_)
  refine lv_aload_n hx hb dL_law_299 rfl (lv_at hl 8 rfl) ?_
  refine r_len hF hE 2 rfl hRa dL_law_300 ?_
  refine lv_goto (tgt := 306) hx hb dL_law_301 (by decide) ?_
  refine lv_bipush (v := nI 60) hx hb dL_law_306 (by decide) ?_
  refine lv_icmp_gt (tgt := 315) hx hb dL_law_308 (by decide) (fun c_78 => ?_) (fun c_78 => ?_)
  · skip
    have hcan : ¬ t.length ≤ 60 := fun z => absurd ((nI_ltI (by omega) (by omega)).mp c_78) (by omega)
    refine lv_iconst (v := nI 0) hx hb dL_law_315 (by decide) ?_
    refine lv_istore (lv' := [(11, .int (nI 0)), (10, .int (nI 0)), (9, .int (nI (1 - od wh))), (8, .int (wh)), (7, .int (z)), (6, .int (y)), (5, .int (x)), (4, .int (nI k)), (1, .ref d), (2, .ref a), (3, .ref bb), (0, .ref b)]) hx hb dL_law_316 hl (by decide) rfl (fun ls hl => ?_)
    refine lv_aload_n hx hb dL_law_318 rfl (lv_at hl 8 rfl) ?_
    refine lv_iload hx hb dL_law_319 (lv_at hl 1 rfl) ?_
    refine lv_iload hx hb dL_law_321 (lv_at hl 5 rfl) ?_
    refine lv_iload hx hb dL_law_323 (lv_at hl 4 rfl) ?_
    have hle : ¬ t.length ≤ 60 := hcan
    refine tQJ (uV 3 (rest := []) hF hE hS (fun q z => z.elim (fun h => by rw [h]; exact hd) (fun h => hA q (Nat.le_trans hS.1 h))) (m_X1_put l E H.size d t u (nI 0) y z) (lw_V q33 q34 q35 q1 q36) (hDk.recv hE) hDk hl.1 rfl dL_law_325 ⟨by show _ ≤ 1200000; omega, by show _ ≤ 5502250; omega⟩) hS (fun q z => z.elim (fun h => by rw [h]; exact hd) (fun h => hA q (Nat.le_trans hS.1 h))) (fun H_79 locs_79 hB hz_79 hk_79 hSn => ?_)
    have hDk : Dsk E H_79 d (t) (u) := by rw [if_pos hoo, if_pos hoo, two, if_neg hle] at hB; exact hB
    have hRa := hRa.st hk_79 (fun _ hq z => z.elim id (fun h => absurd hq (Nat.not_lt.mpr h)))
    have hRb := hRb.st hk_79 (fun _ hq z => z.elim id (fun h => absurd hq (Nat.not_lt.mpr h)))
    have hS := hSn
    refine w_to (nI 0) (by rw [if_pos hoo, if_neg hle]) ?_
    refine lv_iload hx hb dL_law_328 (lv_at hl 0 rfl) ?_
    refine lv_icmp_eq (tgt := 335) hx hb dL_law_330 (by decide) (fun c_80 => ?_) (fun c_80 => absurd rfl c_80)
    refine lv_iload hx hb dL_law_335 (lv_at hl 0 rfl) ?_
    refine lv_if_eq (tgt := 363) hx hb dL_law_337 (by decide) (fun c_81 => ?_) (fun c_81 => absurd nI_0 c_81)
    refine lv_iload hx hb dL_law_363 (lv_at hl 0 rfl) ?_
    refine lv_if_eq (tgt := 392) hx hb dL_law_365 (by decide) (fun c_82 => ?_) (fun c_82 => absurd nI_0 c_82)
    refine lv_iinc (v := nI (0 + 1)) (lv' := [(10, .int (nI (0 + 1))), (11, .int (nI 0)), (9, .int (nI (1 - od wh))), (8, .int (wh)), (7, .int (z)), (6, .int (y)), (5, .int (x)), (4, .int (nI k)), (1, .ref d), (2, .ref a), (3, .ref bb), (0, .ref b)]) hx hb dL_law_392 hl (k := 1) rfl (nI_add 0 1) (by decide) rfl (fun ls hl => ?_)
    refine lv_goto (tgt := 288) hx hb dL_law_395 (by decide) ?_
    refine W.widen (k := 10 + 7 * k + 6) (n := 1000 + 700 * k + 508) (by omega) (by omega) ?_
    exact r1 a bb (t) (u) H_79 _ ls hDk hRa hRb hS (lv_sub hl [0, 2, 3, 4, 5, 6, 7, 8, 9, 10, 11] rfl)
  · skip
    have hcan : t.length ≤ 60 := Nat.not_lt.mp (fun z => c_78 ((nI_ltI (by omega) (by omega)).mpr z))
    refine lv_iconst (v := nI 1) hx hb dL_law_311 (by decide) ?_
    refine lv_goto (tgt := 316) hx hb dL_law_312 (by decide) ?_
    refine lv_istore (lv' := [(11, .int (nI 1)), (10, .int (nI 0)), (9, .int (nI (1 - od wh))), (8, .int (wh)), (7, .int (z)), (6, .int (y)), (5, .int (x)), (4, .int (nI k)), (1, .ref d), (2, .ref a), (3, .ref bb), (0, .ref b)]) hx hb dL_law_316 hl (by decide) rfl (fun ls hl => ?_)
    refine lv_aload_n hx hb dL_law_318 rfl (lv_at hl 8 rfl) ?_
    refine lv_iload hx hb dL_law_319 (lv_at hl 1 rfl) ?_
    refine lv_iload hx hb dL_law_321 (lv_at hl 5 rfl) ?_
    refine lv_iload hx hb dL_law_323 (lv_at hl 4 rfl) ?_
    have hle : t.length ≤ 60 := hcan
    refine tQJ (uV 3 (rest := []) hF hE hS (fun q z => z.elim (fun h => by rw [h]; exact hd) (fun h => hA q (Nat.le_trans hS.1 h))) (m_X1_put l E H.size d t u (nI 0) y z) (lw_V q33 q34 q35 q1 q36) (hDk.recv hE) hDk hl.1 rfl dL_law_325 ⟨by show _ ≤ 1200000; omega, by show _ ≤ 5502250; omega⟩) hS (fun q z => z.elim (fun h => by rw [h]; exact hd) (fun h => hA q (Nat.le_trans hS.1 h))) (fun H_83 locs_83 hB hz_83 hk_83 hSn => ?_)
    have hDk : Dsk E H_83 d (t ++ [sg y, sg z]) (u) := by rw [if_pos hoo, if_pos hoo, two, if_pos hle] at hB; exact hB
    have hRa := hRa.st hk_83 (fun _ hq z => z.elim id (fun h => absurd hq (Nat.not_lt.mpr h)))
    have hRb := hRb.st hk_83 (fun _ hq z => z.elim id (fun h => absurd hq (Nat.not_lt.mpr h)))
    have hS := hSn
    refine w_to (nI 1) (by rw [if_pos hoo, if_pos hle]) ?_
    refine lv_iload hx hb dL_law_328 (lv_at hl 0 rfl) ?_
    refine lv_icmp_eq (tgt := 335) hx hb dL_law_330 (by decide) (fun c_84 => ?_) (fun c_84 => absurd rfl c_84)
    refine lv_iload hx hb dL_law_335 (lv_at hl 0 rfl) ?_
    refine lv_if_eq (tgt := 363) hx hb dL_law_337 (by decide) (fun c_85 => absurd c_85 (by decide)) (fun c_85 => ?_)
    refine lv_iload hx hb dL_law_340 (lv_at hl 1 rfl) ?_
    refine lv_if_ne (tgt := 363) hx hb dL_law_342 (by decide) (fun c_86 => absurd nI_0 c_86) (fun c_86 => ?_)
    refine lv_aload_n hx hb dL_law_345 rfl (lv_at hl 9 rfl) ?_
    refine lv_iload hx hb dL_law_346 (lv_at hl 5 rfl) ?_
    refine tI (v := nI (sg y)) (uS 1 (rest := [.ref a]) hF hE hS (fun _ z => absurd z id) (m_X0_sign l E H_83.size y) (lw_S q435 q436 q0 q437) trivial hl.1 rfl dL_law_348 ⟨by show _ ≤ 1200000; omega, by show _ ≤ 5502250; omega⟩) ?_
    refine tQR (uS 2 (rest := []) hF hE hS (fun q z => hA q (Nat.le_trans hS.1 z)) (m_more l E H_83.size a t hT (sg y) (sg_lt y) (by omega) (Eqd d) (fun q z => by rw [z]; exact hDk.lt)) (lw_S q438 q439 q0 q440) hRa.no hl.1 rfl dL_law_351 ⟨by show _ ≤ 1200000; omega, by show _ ≤ 5502250; omega⟩) hS (fun q z => hA q (Nat.le_trans hS.1 z)) (fun q1 H_87 locs_87 hB hz_87 hk_87 hSn => ?_)
    have hNew := hB
    have hDk := hDk.keep hk_87
    have hRa := hRa.keep hk_87
    have hRb := hRb.keep hk_87
    have hS := hSn
    refine lv_iload hx hb dL_law_354 (lv_at hl 4 rfl) ?_
    refine tI (v := nI (sg z)) (uS 1 (rest := [.ref q1]) hF hE hS (fun _ z => absurd z id) (m_X0_sign l E H_87.size z) (lw_S q435 q436 q0 q437) trivial hl.1 rfl dL_law_356 ⟨by show _ ≤ 1200000; omega, by show _ ≤ 5502250; omega⟩) ?_
    have hT1 := one_tx hT (by omega) (sg_lt y)
    have hl1 : (t ++ [sg y]).length = t.length + 1 := by rw [List.length_append]; rfl
    have hN1 := hNew
    refine tQR (uS 2 (rest := []) hF hE hS (fun q z => hA q (Nat.le_trans hS.1 z)) (m_more l E H_87.size q1 (t ++ [sg y]) hT1 (sg z) (sg_lt z) (by omega) (Eqd d) (fun q z => by rw [z]; exact hDk.lt)) (lw_S q438 q439 q0 q440) hN1.no hl.1 rfl dL_law_359 ⟨by show _ ≤ 1200000; omega, by show _ ≤ 5502250; omega⟩) hS (fun q z => hA q (Nat.le_trans hS.1 z)) (fun q2 H_88 locs_88 hB hz_88 hk_88 hSn => ?_)
    have hNew := hB
    have hDk := hDk.keep hk_88
    have hRa := hRa.keep hk_88
    have hRb := hRb.keep hk_88
    have hS := hSn
    rw [app2] at hNew
    refine lv_astore_n (lv' := [(2, .ref q2), (11, .int (nI 1)), (10, .int (nI 0)), (9, .int (nI (1 - od wh))), (8, .int (wh)), (7, .int (z)), (6, .int (y)), (5, .int (x)), (4, .int (nI k)), (1, .ref d), (3, .ref bb), (0, .ref b)]) hx hb dL_law_362 rfl hl (by decide) rfl (fun ls hl => ?_)
    refine lv_iload hx hb dL_law_363 (lv_at hl 1 rfl) ?_
    refine lv_if_eq (tgt := 392) hx hb dL_law_365 (by decide) (fun c_89 => absurd c_89 (by decide)) (fun c_89 => ?_)
    refine lv_iload hx hb dL_law_368 (lv_at hl 2 rfl) ?_
    refine lv_iconst (v := nI 1) hx hb dL_law_370 (by decide) ?_
    refine lv_icmp_ne (tgt := 392) hx hb dL_law_371 (by decide) (fun c_90 => ?_) (fun c_90 => absurd c_90 (by decide))
    refine lv_iinc (v := nI (0 + 1)) (lv' := [(10, .int (nI (0 + 1))), (2, .ref q2), (11, .int (nI 1)), (9, .int (nI (1 - od wh))), (8, .int (wh)), (7, .int (z)), (6, .int (y)), (5, .int (x)), (4, .int (nI k)), (1, .ref d), (3, .ref bb), (0, .ref b)]) hx hb dL_law_392 hl (k := 2) rfl (nI_add 0 1) (by decide) rfl (fun ls hl => ?_)
    refine lv_goto (tgt := 288) hx hb dL_law_395 (by decide) ?_
    refine W.widen (k := 10 + 7 * k + 6) (n := 1000 + 700 * k + 508) (by omega) (by omega) ?_
    exact r1 q2 bb (t ++ [sg y, sg z]) (u) H_88 _ ls hDk hNew hRb hS (lv_sub hl [0, 3, 4, 5, 6, 7, 8, 9, 1, 10, 11] rfl)
set_option maxHeartbeats 4000000 in
/-- the switch -/
theorem law_93 (l : Launch) {pp : Program} {ee : Env} {s : State} {mm : MethodId} {bw : List Frame} {me : Method} {cd : Code} {E : EvT} {b L d : Nat} {xs : Nat → Int32} (hF : CallFix pp mm cd code 12 s #[Value.ref b] lw_all R_law) (hr : me.sig.returnType = ret) (hlk : me.locks = false) (hE : Ev E (Nw s.heap.size) s s.heap) (hL : L ≤ 96) (hXs : va_X b L xs s s.heap) (hbl : b < s.heap.size) (hbA : ¬ Nw s.heap.size b) (hd : s.heap.size ≤ d) (k : Nat) (hk : k ≤ 96) (x y z wh : Int32) (t498 : ∀ (a bb : Nat) (t u : List Nat) (H : Heap) (locs : List Loc) (ls : Array Slot), (Dsk E H d t u) → (RA (eI E) (Eqd d) H a t.length (tb t)) → (RA (eI E) (Eqd d) H bb u.length (tb u)) → (va_S (Nw s.heap.size) s.heap H locs) → lv_has ls 12 [(7, .int (z)), (4, .int (nI k)), (1, .ref d), (2, .ref a), (3, .ref bb), (0, .ref b)] → W pp l ee room_1 s mm #[Value.ref b] bw me cd H locs (10 + 7 * k + 14) (1000 + 700 * k + 1400) (lw_Z bw #[Value.ref b] s) (F0 mm 498 ls [])) : ∀ (a bb : Nat) (t u : List Nat) (H : Heap) (locs : List Loc) (ls : Array Slot), (Dsk E H d t u) → (RA (eI E) (Eqd d) H a t.length (tb t)) → (RA (eI E) (Eqd d) H bb u.length (tb u)) → (va_S (Nw s.heap.size) s.heap H locs) → lv_has ls 12 [(9, .int (nI (1 - od wh))), (8, .int (wh)), (7, .int (z)), (6, .int (y)), (5, .int (x)), (4, .int (nI k)), (1, .ref d), (2, .ref a), (3, .ref bb), (0, .ref b)] → W pp l ee room_1 s mm #[Value.ref b] bw me cd H locs (10 + 7 * k) (1000 + 700 * k) (lw_Z bw #[Value.ref b] s) (F0 mm 93 ls []) := by
  have hx := hF.1
  have hb := hF.2.1
  have hA : ∀ q, s.heap.size ≤ q → Nw s.heap.size q := fun _ h => h
  intro a bb t u H locs ls hDk hRa hRb hS hl
  refine lv_iload hx hb dL_law_93 (lv_at hl 4 rfl) ?_
  refine tI (v := nI (br x)) (uS 1 (rest := []) hF hE hS (fun _ z => absurd z id) (m_bare l E H.size x) (lw_S q431 q432 q0 q433) trivial hl.1 rfl dL_law_95 ⟨by show _ ≤ 1200000; omega, by show _ ≤ 5502250; omega⟩) ?_
  refine lv_bipush (v := nI 16) hx hb dL_law_98 (by decide) ?_
  refine lv_irem hx hb dL_law_100 (by decide) ?_
  refine w_to (nI (br x % 16)) (pk_rem (br_lt x) (by decide) (by decide)) ?_
  have hj : br x % 16 < 16 := Nat.mod_lt _ (by decide)
  generalize br x % 16 = j at hj ⊢
  rcases (show j = 0 ∨ j = 1 ∨ j = 2 ∨ j = 3 ∨ j = 4 ∨ j = 5 ∨ j = 6 ∨ j = 7 ∨ 8 ≤ j by omega) with rfl | rfl | rfl | rfl | rfl | rfl | rfl | rfl | hj8
  · skip
    refine lv_tableIn (off := 47) (tgt := 148) hx hb dL_law_101 (by decide) (by decide) (by decide) (by decide) ?_
    exact law_j0 l hF hr hlk hE hL hXs hbl hbA hd k hk x y z wh t498 a bb t u H locs ls hDk hRa hRb hS hl
  · skip
    refine lv_tableIn (off := 72) (tgt := 173) hx hb dL_law_101 (by decide) (by decide) (by decide) (by decide) ?_
    exact law_j1 l hF hr hlk hE hL hXs hbl hbA hd k hk x y z wh t498 a bb t u H locs ls hDk hRa hRb hS hl
  · skip
    refine lv_tableIn (off := 72) (tgt := 173) hx hb dL_law_101 (by decide) (by decide) (by decide) (by decide) ?_
    exact law_j1 l hF hr hlk hE hL hXs hbl hbA hd k hk x y z wh t498 a bb t u H locs ls hDk hRa hRb hS hl
  · skip
    refine lv_tableIn (off := 99) (tgt := 200) hx hb dL_law_101 (by decide) (by decide) (by decide) (by decide) ?_
    exact law_j3 l hF hr hlk hE hL hXs hbl hbA hd k hk x y z wh t498 a bb t u H locs ls hDk hRa hRb hS hl
  · skip
    refine lv_tableIn (off := 99) (tgt := 200) hx hb dL_law_101 (by decide) (by decide) (by decide) (by decide) ?_
    exact law_j3 l hF hr hlk hE hL hXs hbl hbA hd k hk x y z wh t498 a bb t u H locs ls hDk hRa hRb hS hl
  · skip
    refine lv_tableIn (off := 126) (tgt := 227) hx hb dL_law_101 (by decide) (by decide) (by decide) (by decide) ?_
    exact law_j5 l hF hr hlk hE hL hXs hbl hbA hd k hk x y z wh t498 a bb t u H locs ls hDk hRa hRb hS hl
  · skip
    refine lv_tableIn (off := 155) (tgt := 256) hx hb dL_law_101 (by decide) (by decide) (by decide) (by decide) ?_
    exact law_j6 l hF hr hlk hE hL hXs hbl hbA hd k hk x y z wh t498 a bb t u H locs ls hDk hRa hRb hS hl
  · skip
    refine lv_tableIn (off := 184) (tgt := 285) hx hb dL_law_101 (by decide) (by decide) (by decide) (by decide) ?_
    refine lv_iconst (v := nI 0) hx hb dL_law_285 (by decide) ?_
    refine lv_istore (lv' := [(10, .int (nI 0)), (9, .int (nI (1 - od wh))), (8, .int (wh)), (7, .int (z)), (6, .int (y)), (5, .int (x)), (4, .int (nI k)), (1, .ref d), (2, .ref a), (3, .ref bb), (0, .ref b)]) hx hb dL_law_286 hl (by decide) rfl (fun ls hl => ?_)
    exact law_r0 l hF hr hlk hE hL hXs hbl hbA hd k hk x y z wh (law_r1 l hF hr hlk hE hL hXs hbl hbA hd k hk x y z wh t498) a bb t u H locs ls hDk hRa hRb hS (lv_sub hl [0, 1, 2, 3, 4, 5, 6, 7, 8, 9, 10] rfl)
  · skip
    refine lv_tableOut (tgt := 401) hx hb dL_law_101 (Or.inr (by rw [nI_toInt (by omega)]; omega)) (by decide) ?_
    exact law_j8 l hF hr hlk hE hL hXs hbl hbA hd k hk x y z wh t498 a bb t u H locs ls hDk hRa hRb hS hl
set_option maxHeartbeats 4000000 in
/-- the loop -/
theorem law_loop (l : Launch) {pp : Program} {ee : Env} {s : State} {mm : MethodId} {bw : List Frame} {me : Method} {cd : Code} {E : EvT} {b L d : Nat} {xs : Nat → Int32} (hF : CallFix pp mm cd code 12 s #[Value.ref b] lw_all R_law) (hr : me.sig.returnType = ret) (hlk : me.locks = false) (hE : Ev E (Nw s.heap.size) s s.heap) (hL : L ≤ 96) (hXs : va_X b L xs s s.heap) (hbl : b < s.heap.size) (hbA : ¬ Nw s.heap.size b) (hd : s.heap.size ≤ d) : ∀ (n k a bb : Nat) (t u : List Nat) (H : Heap) (locs : List Loc) (ls : Array Slot), (k + 3 * n = 96) → (Dsk E H d t u) → (RA (eI E) (Eqd d) H a t.length (tb t)) → (RA (eI E) (Eqd d) H bb u.length (tb u)) → (va_S (Nw s.heap.size) s.heap H locs) → lv_has ls 12 [(4, .int (nI k)), (1, .ref d), (2, .ref a), (3, .ref bb), (0, .ref b)] → W pp l ee room_1 s mm #[Value.ref b] bw me cd H locs (10 + 7 * k) (1000 + 700 * k) (lw_Z bw #[Value.ref b] s) (F0 mm 35 ls []) := by
  have hx := hF.1
  have hb := hF.2.1
  have hA : ∀ q, s.heap.size ≤ q → Nw s.heap.size q := fun _ h => h
  intro n
  induction n with
  | zero =>
    intro k a bb t u H locs ls hk hDk hRa hRb hS hl
    refine lv_iload hx hb dL_law_35 (lv_at hl 0 rfl) ?_
    refine lv_iconst (v := nI 2) hx hb dL_law_37 (by decide) ?_
    refine lv_iadd hx hb dL_law_38 ?_
    refine w_to (nI (k + 2)) (nI_add _ _) ?_
    refine lv_bipush (v := nI 96) hx hb dL_law_39 (by decide) ?_
    refine lv_icmp_ge (tgt := 517) hx hb dL_law_41 (by decide) (fun c_91 => ?_) (fun c_91 => absurd ((nI_leI (by omega) (by omega)).mpr (by omega)) c_91)
    refine W.widen (k := 700) (n := 70000) (by omega) (by omega) ?_
    exact law_end l hF hr hlk hE hL hXs hbl hbA hd a bb t u H locs ls hDk hRa hRb hS (lv_sub hl [1, 2, 3, 4] rfl)
  | succ n ih =>
    intro k a bb t u H locs ls hk hDk hRa hRb hS hl
    have hT : Tx t := by obtain ⟨_, _, _, h, _⟩ := hDk; exact h.1
    have hU : Tx u := by obtain ⟨_, _, _, _, h⟩ := hDk; exact h.1
    have h64 := hT.len
    have h65 := hU.len
    refine lv_iload hx hb dL_law_35 (lv_at hl 0 rfl) ?_
    refine lv_iconst (v := nI 2) hx hb dL_law_37 (by decide) ?_
    refine lv_iadd hx hb dL_law_38 ?_
    refine w_to (nI (k + 2)) (nI_add _ _) ?_
    refine lv_bipush (v := nI 96) hx hb dL_law_39 (by decide) ?_
    refine lv_icmp_ge (tgt := 517) hx hb dL_law_41 (by decide) (fun c_92 => absurd c_92 (fun z => absurd ((nI_leI (by omega) (by omega)).mp z) (by omega))) (fun c_92 => ?_)
    refine lv_aload_n hx hb dL_law_44 rfl (lv_at hl 4 rfl) ?_
    refine lv_iload hx hb dL_law_45 (lv_at hl 0 rfl) ?_
    refine tI (v := cel L xs (k)) (uSX 2 (rest := []) hF hS hXs hbl hbA (m_cell l H.size b L xs hL (k) (by omega)) (lw_S q428 q429 q0 q430) hl.1 rfl dL_law_47 ⟨by show _ ≤ 1200000; omega, by show _ ≤ 5502250; omega⟩) ?_
    refine lv_topi (fun x _ => ?_)
    refine lv_istore (lv' := [(5, .int (x)), (4, .int (nI k)), (1, .ref d), (2, .ref a), (3, .ref bb), (0, .ref b)]) hx hb dL_law_50 hl (by decide) rfl (fun ls hl => ?_)
    refine lv_aload_n hx hb dL_law_52 rfl (lv_at hl 5 rfl) ?_
    refine lv_iload hx hb dL_law_53 (lv_at hl 1 rfl) ?_
    refine lv_iconst (v := nI 1) hx hb dL_law_55 (by decide) ?_
    refine lv_iadd hx hb dL_law_56 ?_
    refine w_to (nI (k + 1)) (nI_add _ _) ?_
    refine tI (v := cel L xs (k + 1)) (uSX 2 (rest := []) hF hS hXs hbl hbA (m_cell l H.size b L xs hL (k + 1) (by omega)) (lw_S q428 q429 q0 q430) hl.1 rfl dL_law_57 ⟨by show _ ≤ 1200000; omega, by show _ ≤ 5502250; omega⟩) ?_
    refine lv_topi (fun y _ => ?_)
    refine lv_istore (lv' := [(6, .int (y)), (5, .int (x)), (4, .int (nI k)), (1, .ref d), (2, .ref a), (3, .ref bb), (0, .ref b)]) hx hb dL_law_60 hl (by decide) rfl (fun ls hl => ?_)
    refine lv_aload_n hx hb dL_law_62 rfl (lv_at hl 6 rfl) ?_
    refine lv_iload hx hb dL_law_63 (lv_at hl 2 rfl) ?_
    refine lv_iconst (v := nI 2) hx hb dL_law_65 (by decide) ?_
    refine lv_iadd hx hb dL_law_66 ?_
    refine w_to (nI (k + 2)) (nI_add _ _) ?_
    refine tI (v := cel L xs (k + 2)) (uSX 2 (rest := []) hF hS hXs hbl hbA (m_cell l H.size b L xs hL (k + 2) (by omega)) (lw_S q428 q429 q0 q430) hl.1 rfl dL_law_67 ⟨by show _ ≤ 1200000; omega, by show _ ≤ 5502250; omega⟩) ?_
    refine lv_topi (fun z _ => ?_)
    refine lv_istore (lv' := [(7, .int (z)), (6, .int (y)), (5, .int (x)), (4, .int (nI k)), (1, .ref d), (2, .ref a), (3, .ref bb), (0, .ref b)]) hx hb dL_law_70 hl (by decide) rfl (fun ls hl => ?_)
    refine lv_iload hx hb dL_law_72 (lv_at hl 2 rfl) ?_
    refine lv_bipush (v := nI 8) hx hb dL_law_74 (by decide) ?_
    refine lv_ishr hx hb dL_law_76 ?_
    refine lv_topi (fun wh _ => ?_)
    have hod := od_lt wh
    refine lv_istore (lv' := [(8, .int (wh)), (7, .int (z)), (6, .int (y)), (5, .int (x)), (4, .int (nI k)), (1, .ref d), (2, .ref a), (3, .ref bb), (0, .ref b)]) hx hb dL_law_77 hl (by decide) rfl (fun ls hl => ?_)
    refine lv_iload hx hb dL_law_79 (lv_at hl 0 rfl) ?_
    refine lv_iconst (v := nI 1) hx hb dL_law_81 (by decide) ?_
    refine lv_iand hx hb dL_law_82 ?_
    refine w_to (nI (od wh)) (od_and wh) ?_
    have t498 : ∀ (a bb : Nat) (t u : List Nat) (H : Heap) (locs : List Loc) (ls : Array Slot), (Dsk E H d t u) → (RA (eI E) (Eqd d) H a t.length (tb t)) → (RA (eI E) (Eqd d) H bb u.length (tb u)) → (va_S (Nw s.heap.size) s.heap H locs) → lv_has ls 12 [(7, .int (z)), (4, .int (nI k)), (1, .ref d), (2, .ref a), (3, .ref bb), (0, .ref b)] → W pp l ee room_1 s mm #[Value.ref b] bw me cd H locs (10 + 7 * k + 14) (1000 + 700 * k + 1400) (lw_Z bw #[Value.ref b] s) (F0 mm 498 ls []) := by
      intro a bb t u H locs ls hDk hRa hRb hS hl
      refine lv_aload_n hx hb dL_law_498 rfl (lv_at hl 2 rfl) ?_
      refine lv_aload_n hx hb dL_law_499 rfl (lv_at hl 3 rfl) ?_
      refine lv_aload_n hx hb dL_law_500 rfl (lv_at hl 4 rfl) ?_
      refine lv_iload hx hb dL_law_501 (lv_at hl 0 rfl) ?_
      refine tQJ (uS 4 (rest := []) hF hE hS (fun q z => hA q (Nat.le_trans hS.1 z)) (m_told l E H.size d a bb t u z) (lw_S q454 q455 q0 q456) ⟨hDk, hRa.no, hRb.no⟩ hl.1 rfl dL_law_503 ⟨by show _ ≤ 1200000; omega, by show _ ≤ 5502250; omega⟩) hS (fun q z => hA q (Nat.le_trans hS.1 z)) (fun H_93 locs_93 hB hz_93 hk_93 hSn => ?_)
      have hDk := hDk.keep hk_93
      have hRa := hRa.keep hk_93
      have hRb := hRb.keep hk_93
      have hS := hSn
      refine lv_if_ne (tgt := 511) hx hb dL_law_506 (by decide) (fun c_94 => ?_) (fun c_94 => absurd c_94 (fun z => absurd z (by decide)))
      refine lv_iinc (v := nI (k + 3)) (lv' := [(4, .int (nI (k + 3))), (7, .int (z)), (1, .ref d), (2, .ref a), (3, .ref bb), (0, .ref b)]) hx hb dL_law_511 hl (k := 1) rfl (nI_add k 3) (by decide) rfl (fun ls hl => ?_)
      refine lv_goto (tgt := 35) hx hb dL_law_514 (by decide) ?_
      refine W.widen (k := 10 + 7 * (k + 3)) (n := 1000 + 700 * (k + 3)) (by omega) (by omega) ?_
      exact ih (k + 3) a bb t u H_93 _ ls (by omega) hDk hRa hRb hS (lv_sub hl [0, 2, 3, 4, 5] rfl)
    refine lv_if_ne (tgt := 90) hx hb dL_law_83 (by decide) (fun c_95 => ?_) (fun c_95 => ?_)
    · skip
      have ho : od wh = 1 := by
        have h0 : ¬ od wh = 0 := fun z => c_95 (by rw [z]; exact nI_0)
        omega
      refine lv_iconst (v := nI 0) hx hb dL_law_90 (by decide) ?_
      refine w_to (nI (1 - od wh)) (congrArg nI (by omega)) ?_
      refine lv_istore (lv' := [(9, .int (nI (1 - od wh))), (8, .int (wh)), (7, .int (z)), (6, .int (y)), (5, .int (x)), (4, .int (nI k)), (1, .ref d), (2, .ref a), (3, .ref bb), (0, .ref b)]) hx hb dL_law_91 hl (by decide) rfl (fun ls hl => ?_)
      exact law_93 l hF hr hlk hE hL hXs hbl hbA hd k (by omega) x y z wh t498 a bb t u H locs ls hDk hRa hRb hS (lv_sub hl [0, 1, 2, 3, 4, 5, 6, 7, 8, 9] rfl)
    · skip
      have ho : od wh = 0 := (nI_z (by omega)).mp c_95
      refine lv_iconst (v := nI 1) hx hb dL_law_86 (by decide) ?_
      refine lv_goto (tgt := 91) hx hb dL_law_87 (by decide) ?_
      refine w_to (nI (1 - od wh)) (congrArg nI (by omega)) ?_
      refine lv_istore (lv' := [(9, .int (nI (1 - od wh))), (8, .int (wh)), (7, .int (z)), (6, .int (y)), (5, .int (x)), (4, .int (nI k)), (1, .ref d), (2, .ref a), (3, .ref bb), (0, .ref b)]) hx hb dL_law_91 hl (by decide) rfl (fun ls hl => ?_)
      exact law_93 l hF hr hlk hE hL hXs hbl hbA hd k (by omega) x y z wh t498 a bb t u H locs ls hDk hRa hRb hS (lv_sub hl [0, 1, 2, 3, 4, 5, 6, 7, 8, 9] rfl)
set_option maxHeartbeats 4000000 in
/-- from the entry -/
theorem law_body (l : Launch) {pp : Program} {ee : Env} {s : State} {mm : MethodId} {bw : List Frame} {me : Method} {cd : Code} {E : EvT} {b L : Nat} {xs : Nat → Int32} (hF : CallFix pp mm cd code 12 s #[Value.ref b] lw_all R_law) (hr : me.sig.returnType = ret) (hlk : me.locks = false) (hE : Ev E (Nw s.heap.size) s s.heap) (hL : L ≤ 96) (hXs : va_X b L xs s s.heap) (hbl : b < s.heap.size) (hbA : ¬ Nw s.heap.size b) (ls : Array Slot) (hl : lv_has ls 12 [(0, .ref b)]) : W pp l ee room_1 s mm #[Value.ref b] bw me cd s.heap [] 0 0 (lw_Z bw #[Value.ref b] s) (F0 mm 0 ls []) := by
  have hx := hF.1
  have hb := hF.2.1
  have hA : ∀ q, s.heap.size ≤ q → Nw s.heap.size q := fun _ h => h
  have hS : va_S (Nw s.heap.size) s.heap s.heap [] := va_S.rf
  have hP := p_nil (E := E) (H := s.heap)
  have hD := d_nil (A := Nw s.heap.size)
  refine va_new (D := E.1) (cl := vwCl) (ci := 2) (fs := [.null, .null]) (C := RX1) (T := TX1) (N := 2) hx hb hF.2.2.2.2 in_X1 tyX1 tyX1_ok hF.2.2.2.1 (hF.2.2.2.2 _ q16) (hF.2.2.2.2 _ q17) (hF.2.2.2.2 _ q1) hE.1 hP hD hS hA rfl (fun j hj => by rcases (show j = 0 ∨ j = 1 by omega) with rfl | rfl <;> rfl) (by show _ ≤ 1200000; omega) (by show _ ≤ 5502250; omega) dL_law_0 (fun d H_96 hP hD hS => ?_)
  have hP : va_P E.1 vwCl [(d, .inr (2, [.null, .null]))] H_96 := hP
  have hD : va_D (Nw s.heap.size) [(d, .inr (2, [.null, .null]))] := hD
  have hd : s.heap.size ≤ d := d_in hD 0 rfl
  refine lv_dup hx hb dL_law_3 rfl ?_
  refine tQW (uI 0 (rest := [.ref d]) hF hE hS (fun q z => z.elim (fun h => by rw [h]; exact hd) (fun h => hA q (Nat.le_trans hS.1 h))) (m_X1_init l E H_96.size d) q1 q18 q19 q20 hP hl.1 rfl dL_law_4 ⟨by show _ ≤ 1200000; omega, by show _ ≤ 5502250; omega⟩) hS (fun q z => z.elim (fun h => by rw [h]; exact hd) (fun h => hA q (Nat.le_trans hS.1 h))) (fun H_97 locs_97 hB hz_97 hk_97 hSn => ?_)
  have hDk : Dsk E H_97 d [] [] := hB
  have hS := hSn
  refine lv_astore_n (lv' := [(1, .ref d), (0, .ref b)]) hx hb dL_law_7 rfl hl (by decide) rfl (fun ls hl => ?_)
  refine lv_iconst (v := nI 0) hx hb dL_law_8 (by decide) ?_
  have hP := p_nil (E := E) (H := H_97)
  have hD := d_nil (A := Nw s.heap.size)
  refine r_new (cX := eI E) (atype := .int) hF hE q441 (hE.1.2 2 _ rfl).2 rfl hP hD hS hA (N' := 0) (by omega) (by decide) (by show _ ≤ 1200000; omega) (by show _ ≤ 5502250; omega) dL_law_9 (fun a H_98 hq_a hP hD hS hz_98 hk_98 => ?_)
  have hP : va_P E.1 vwCl [(a, .inl (eI E, 0, .inl (fun _ => 0)))] H_98 := hP
  have hD : va_D (Nw s.heap.size) [(a, .inl (eI E, 0, .inl (fun _ => 0)))] := hD
  have hNew : RA (eI E) (Eqd d) H_98 a (([] : List Nat).length) (tb []) := (RA.of hP 0 rfl (fun z => Nat.ne_of_gt hDk.lt (hq_a.symm.trans z))).congr (fun j hj => absurd hj (Nat.not_lt_zero j))
  have hDk := hDk.keep hk_98
  have hRa := hNew
  refine lv_astore_n (lv' := [(2, .ref a), (1, .ref d), (0, .ref b)]) hx hb dL_law_11 rfl hl (by decide) rfl (fun ls hl => ?_)
  refine lv_iconst (v := nI 0) hx hb dL_law_12 (by decide) ?_
  have hP := p_nil (E := E) (H := H_98)
  have hD := d_nil (A := Nw s.heap.size)
  refine r_new (cX := eI E) (atype := .int) hF hE q441 (hE.1.2 2 _ rfl).2 rfl hP hD hS hA (N' := 0) (by omega) (by decide) (by show _ ≤ 1200000; omega) (by show _ ≤ 5502250; omega) dL_law_13 (fun bb H_99 hq_bb hP hD hS hz_99 hk_99 => ?_)
  have hP : va_P E.1 vwCl [(bb, .inl (eI E, 0, .inl (fun _ => 0)))] H_99 := hP
  have hD : va_D (Nw s.heap.size) [(bb, .inl (eI E, 0, .inl (fun _ => 0)))] := hD
  have hNew : RA (eI E) (Eqd d) H_99 bb (([] : List Nat).length) (tb []) := (RA.of hP 0 rfl (fun z => Nat.ne_of_gt hDk.lt (hq_bb.symm.trans z))).congr (fun j hj => absurd hj (Nat.not_lt_zero j))
  have hDk := hDk.keep hk_99
  have hRa := hRa.keep hk_99
  have hRb := hNew
  refine lv_astore_n (lv' := [(3, .ref bb), (2, .ref a), (1, .ref d), (0, .ref b)]) hx hb dL_law_15 rfl hl (by decide) rfl (fun ls hl => ?_)
  refine lv_aload_n hx hb dL_law_16 rfl (lv_at hl 2 rfl) ?_
  refine lv_aload_n hx hb dL_law_17 rfl (lv_at hl 1 rfl) ?_
  refine lv_aload_n hx hb dL_law_18 rfl (lv_at hl 0 rfl) ?_
  refine lv_aload_n hx hb dL_law_19 rfl (lv_at hl 3 rfl) ?_
  refine lv_iconst (v := nI 0) hx hb dL_law_20 (by decide) ?_
  refine tI (v := cel L xs (0)) (uSX 2 (rest := [.ref bb, .ref a, .ref d]) hF hS hXs hbl hbA (m_cell l H_99.size b L xs hL (0) (by omega)) (lw_S q428 q429 q0 q430) hl.1 rfl dL_law_21 ⟨by show _ ≤ 1200000; omega, by show _ ≤ 5502250; omega⟩) ?_
  refine lv_topi (fun x0 _ => ?_)
  refine tQJ (uS 4 (rest := []) hF hE hS (fun q z => hA q (Nat.le_trans hS.1 z)) (m_told l E H_99.size d a bb [] [] x0) (lw_S q454 q455 q0 q456) ⟨hDk, hRa.no, hRb.no⟩ hl.1 rfl dL_law_24 ⟨by show _ ≤ 1200000; omega, by show _ ≤ 5502250; omega⟩) hS (fun q z => hA q (Nat.le_trans hS.1 z)) (fun H_100 locs_100 hB hz_100 hk_100 hSn => ?_)
  have hDk := hDk.keep hk_100
  have hRa := hRa.keep hk_100
  have hRb := hRb.keep hk_100
  have hS := hSn
  refine lv_if_ne (tgt := 32) hx hb dL_law_27 (by decide) (fun c_101 => ?_) (fun c_101 => absurd c_101 (fun z => absurd z (by decide)))
  refine lv_iconst (v := nI 0) hx hb dL_law_32 (by decide) ?_
  refine lv_istore (lv' := [(4, .int (nI 0)), (3, .ref bb), (2, .ref a), (1, .ref d), (0, .ref b)]) hx hb dL_law_33 hl (by decide) rfl (fun ls hl => ?_)
  refine W.widen (k := 10 + 7 * 0) (n := 1000 + 700 * 0) (by omega) (by omega) ?_
  exact law_loop l hF hr hlk hE hL hXs hbl hbA hd 32 0 a bb [] [] H_100 _ ls (by omega) hDk hRa hRb hS (lv_sub hl [0, 3, 2, 1, 4] rfl)
set_option maxHeartbeats 4000000 in
/-- from the entry, for every script of at most 96 ints, the law comes to its end with true -/
theorem whole_start {p : Program} {e : Env} {s : State} {m : MethodId} {below : List Frame} {meth : Method} {c : Code} (l : Launch) (hflags : l.flags = flags0) {b L : Nat} {xs : Nat → Int32} (hL : L ≤ 96) (C0 : lw_At p s m meth c b L xs) : W p l e room_1 s m #[Value.ref b] below meth c s.heap [] 0 0 (lw_Z below #[Value.ref b] s) (entryFrame m ([Value.ref b] : List Value).toArray 12) := by
  obtain ⟨hx, hb, hr, hml, hown, hts0, hX, hbl, hlk, hgv⟩ := C0
  have hts : ∀ w ∈ lw_all, w.before #[Value.ref b] s = true := fun w h => hts0 w (lw_all_tbl h)
  obtain ⟨E, hE⟩ := ev_start hts0 hgv
  have hl := lv_entry ([.ref b]) (n := 12) (Nat.le_of_ble_eq_true rfl)
  rw [lg_entry_eq]
  generalize (lg_sl ([.ref b]) ++ List.replicate (12 - (lg_sl ([.ref b])).length) Slot.unset).toArray = ls at hl ⊢
  exact law_body l ⟨hx, hb, hml, hown, hts⟩ hr hlk hE hL hX hbl (Nat.not_le.mpr hbl) ls hl
end
section
/-! the claim out of the walk -/
theorem lw_t1 : ∀ w ∈ tables_1_1, w ∈ tables_1 := fun _ h => List.mem_append_left _ h
theorem lw_t3 : ∀ w ∈ tables_1_3, w ∈ tables_1 := fun _ h => List.mem_append_right _ (List.mem_append_right _ h)
/-- the tables' words give ours -/
theorem lw_hts {args : Array Value} {s : State} (h : ∀ w ∈ tables_1, w.before args s = true) : ∀ w ∈ lw_tbl, w.before args s = true := by
  intro w hw
  rcases List.mem_append.mp (show w ∈ tables_1 ++ lw_sel from hw) with h1 | h1
  · exact h w h1
  · obtain ⟨y, hy, rfl⟩ := List.mem_map.mp (show w ∈ lw_yp.map (fun y => Cond.selects "java/lang/StringBuilder" y y) from h1)
    have hi : (Cond.instantiable "java/lang/StringBuilder" 4).before args s = true := (h _ (lw_t1 _ (List.mem_of_getElem? (i := 48) rfl)))
    simp only [lw_yp, List.mem_cons, List.not_mem_nil, or_false] at hy
    rcases hy with rfl | rfl | rfl
    · exact sel_priv (n := 4) (by decide) hi (h _ (lw_t1 _ (List.mem_of_getElem? (i := 85) rfl))) (h _ (lw_t1 _ (List.mem_of_getElem? (i := 86) rfl))) (h _ (lw_t3 _ (List.mem_of_getElem? (i := 83) rfl)))
    · exact sel_priv (n := 4) (by decide) hi (h _ (lw_t1 _ (List.mem_of_getElem? (i := 151) rfl))) (h _ (lw_t1 _ (List.mem_of_getElem? (i := 152) rfl))) (h _ (lw_t3 _ (List.mem_of_getElem? (i := 85) rfl)))
    · exact sel_priv (n := 4) (by decide) hi (h _ (lw_t1 _ (List.mem_of_getElem? (i := 155) rfl))) (h _ (lw_t1 _ (List.mem_of_getElem? (i := 156) rfl))) (h _ (lw_t3 _ (List.mem_of_getElem? (i := 86) rfl)))
set_option maxHeartbeats 4000000 in
theorem lw_walk (l : Launch) (hflags : l.flags = flags0) (b : Addr) (xs : List Int32) : MetFree l x (headSpec (Jvm.Cond.code x code maxLocals ret :: tables_1) room_1) (lw_P b xs) (fun _ _ _ _ _ => True) lw_Q := by
  refine MetFree.of_bodyS (code := code) (maxLocals := maxLocals) (ret := ret) (by decide) ?_ ?_
  · intro args s m h hn
    obtain ⟨meth, c, h1, h2, h3, h4, h5, h6, -, -⟩ := Cond.code_spec hn (atoms_spec (ws := Jvm.Cond.code x code maxLocals ret :: tables_1) h _ List.mem_cons_self)
    exact ⟨meth, c, h1, h2, h3, h4, h5, h6⟩
  · intro p e s m args below meth c s₁ B hml0 hP _
    obtain ⟨rfl, hx, hbd, hgv⟩ := hP
    obtain ⟨scr, harrAt, hlist, hof, hsmall⟩ := hx
    obtain ⟨hcb, hkn, -, -⟩ := State.arrayAt?_spec harrAt
    have hown : s.vm.findClass R_law = some m.cls := findClass_of_methodNamed B.named
    have hts0 : ∀ c ∈ (Jvm.Cond.code x code maxLocals ret :: tables_1), c.before #[Value.ref b] s = true := atoms_spec (ws := Jvm.Cond.code x code maxLocals ret :: tables_1) B.pre
    have hts : ∀ w ∈ lw_tbl, w.before #[Value.ref b] s = true := lw_hts (fun w hw => hts0 w (List.mem_cons_of_mem _ hw))
    have hml : c.maxLocals = 12 := B.maxLocals_eq (hts0 _ List.mem_cons_self)
    have X₀ : Stand p l e room_1 s m #[Value.ref b] below meth c s₁ [] 0 0 := Stand.of_body B
    have hh0 : s₁.heap = s.heap := by rw [B.state]; rfl
    have hsz : scr.slots.size = xs.length := by rw [← Array.length_toList, hlist, List.length_map]
    have hval : ∀ j : Nat, j < xs.length → scr.slots[j]? = some (.int (xs.getD j 0)) := fun j hj => by
      rw [← Array.getElem?_toList, hlist]
      simp [hj]
    have hbl : b < s.heap.size := (Array.getElem?_eq_some_iff.mp hcb).1
    have hX : va_X b xs.length (fun j => xs.getD j 0) s s.heap := ⟨scr, hcb, hof, hkn, hsz, hval⟩
    have K : W p l e room_1 s m #[Value.ref b] below meth c s₁.heap [] 0 0 (lw_Z below #[Value.ref b] s) (entryFrame m ([Value.ref b] : List Value).toArray 12) := by
      rw [hh0]
      exact whole_start l hflags hbd ⟨B.exec, B.bytes, B.returns, hml, hown, hts, hX, hbl, B.notSynchronized, hgv⟩
    obtain ⟨t, a1, o, b1, b2, b3⟩ := K s₁ rfl X₀
    exact ⟨t, o, a1, b1, b2, b3⟩
theorem lw_pre_spec {args : Array Value} {s : State} (h : (Jvm.Cond.and given_1 narrow_1).before args s = true) (hr : rest_1_c.before args s = true) : ∃ (b : Addr) (xs : List Int32), lw_P b xs args s := by
  have hs := flat_of_before _ h
  have hq := flat_of_before _ hr
  have hc : (Cond.count 1).before args s = true := hs _ (by decide +kernel)
  have harr : (Cond.arrayOf (.arg 0) .int).before args s = true := hs _ (by decide +kernel)
  have hle : (Cond.le (.length (.arg 0)) (.int 96)).before args s = true := hs _ (by decide +kernel)
  have hlen : (Cond.isInt (.length (.arg 0))).before args s = true := hq _ (by decide +kernel)
  have hall : (Cond.all (.arg 0) (.isInt (.elem (.arg 0) (.index 0)))).before args s = true := hq _ (by decide +kernel)
  obtain ⟨b, xs, hb, hx⟩ := State.ints_of_pre rfl harr hlen hall
  have hsm : xs.length < 2 ^ 31 := hx.choose_spec.2.2.2
  have hev : (Term.length (.arg 0)).eval args s none [] s = some (.int xs.length.toInt32) := hx.length_eval hb
  have hv := Cond.le_ints hev (show (Term.int 96).eval args s none [] s = some (.int 96) from rfl)
  have hd : xs.length.toInt32 ≤ 96 := by
    simpa [Cond.before, Cond.holds, hv] using hle
  have hN : xs.length ≤ 96 := (Int32.ofNat_le_ofNat hsm (by decide)).mp (show Int32.ofNat xs.length ≤ Int32.ofNat 96 from hd)
  exact ⟨b, xs, Cond.one_arg hc (show args[0]? = some (.ref b) from hb), hx, hN, h⟩
theorem lw_comes (l : Launch) (hflags : l.flags = flags0) : Comes l x (Jvm.Cond.code x code maxLocals ret :: tables_1) room_1 (fun tb e args s => Calls_1 tb e args s ∧ rest_1 tb e args s ∧ Pre_1 tb e args s)
    (fun _ _ args s o t => lw_Q args s o t) := by
  intro p e ha hc hk s m args below hf hfit hheap happ hpre
  obtain ⟨b, xs, hP⟩ := lw_pre_spec hpre.2.2 hpre.2.1
  obtain ⟨k, o, h1, h2, h3, hQ⟩ := lw_walk l hflags b xs p e ha hc hk s m args below hf ((Spec.applies_iff_loose hf).mp happ).1 hP trivial
  exact ⟨k, o, h1, h2, h3, hQ⟩
theorem lw_frame {s t : State} {o : Outcome} {args : Array Value} (h : Framed s o t [] 1200000 5502250) :
    Framed s o t (fieldLocs frame_1_writes args s ++ arrayLocs frame_1_arrays args s ++ staticLocs frame_1_statics s) 1200000 5502250 := h
theorem lw_limb (L : Cond) (hL : ∀ (args : Array Value) (s t : State), L.after args s (.returned (some (.int 1))) t = true) :
    ArmFor flags0 classFile x code maxLocals ret World_1 tables_1 room_1 Calls_1 rest_1 Pre_1
      (fun tb e a s o t => postC L tb e a s o t ∧ Framed s o t (fieldLocs frame_1_writes a s ++ arrayLocs frame_1_arrays a s ++ staticLocs frame_1_statics s) 1200000 5502250) := by
  intro l hflags _ _ p e ha hc hk s m args below hf hfit hheap happ hpre
  obtain ⟨k, o, h1, h2, h3, rfl, hF⟩ := lw_comes l hflags p e ha hc hk s m args below hf hfit hheap happ hpre
  exact ⟨k, _, h1, h2, h3, hL args s _, lw_frame hF⟩
theorem i_vc : Claimed_1_1 ∧ Claimed_1_2 := ⟨lw_limb limb_1_1 (fun args s t => by simp [limb_1_1, Cond.after, Cond.holds, Cond.value]), lw_limb limb_1_2 (fun args s t => Cond.after_iff.mpr (by
  first | (rw [show limb_1_2 = Cond.eq .result (.int 1) from rfl, Cond.eq_ints (x := 1) (y := 1) rfl rfl]; simp; done) | (simp [limb_1_2, Cond.value, Term.eval]; done)))⟩
end
