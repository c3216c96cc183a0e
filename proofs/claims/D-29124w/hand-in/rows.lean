section
-- ===== PART A: goes FIRST, ahead of the names: the tables' words, and 'selects' of the private methods out of them =====
/-- a private method of a class that the tables say can be made, by its rows of tables_1 -/
def lw_okq (q : MethodName × Nat) : Prop := (q.1.cls ≠ "java/lang/invoke/MethodHandle" ∧ q.1.cls ≠ "java/lang/invoke/VarHandle") ∧ Cond.instantiable q.1.cls q.2 ∈ tables_1 ∧ Cond.privateMethod q.1 ∈ tables_1 ∧ Cond.instanceMethod q.1 ∈ tables_1
set_option maxRecDepth 100000
theorem lw_t1 {w : Cond} (h : w ∈ tables_1_1) : w ∈ tables_1 := List.mem_append_left _ h
theorem lw_t2 {w : Cond} (h : w ∈ tables_1_2) : w ∈ tables_1 := List.mem_append_right _ h
theorem lw_p0 : lw_okq (⟨"java/lang/Throwable", "fillInStackTrace", "(I)Ljava/lang/Throwable;"⟩, 6) := ⟨⟨by decide +kernel, by decide +kernel⟩, lw_t1 (List.mem_of_getElem? (i := 69) rfl), lw_t1 (List.mem_of_getElem? (i := 67) rfl), lw_t1 (List.mem_of_getElem? (i := 68) rfl)⟩
theorem lw_p1 : lw_okq (⟨"Instant", "plus", "(JJ)LInstant;"⟩, 2) := ⟨⟨by decide +kernel, by decide +kernel⟩, lw_t1 (List.mem_of_getElem? (i := 126) rfl), lw_t1 (List.mem_of_getElem? (i := 168) rfl), lw_t1 (List.mem_of_getElem? (i := 169) rfl)⟩
theorem lw_p2 : lw_okq (⟨"InstantDeskModel", "put", "(IJJ)V"⟩, 2) := ⟨⟨by decide +kernel, by decide +kernel⟩, lw_t2 (List.mem_of_getElem? (i := 17) rfl), lw_t2 (List.mem_of_getElem? (i := 43) rfl), lw_t2 (List.mem_of_getElem? (i := 44) rfl)⟩
theorem lw_p3 : lw_okq (⟨"InstantDeskModel", "open", "(I)Z"⟩, 2) := ⟨⟨by decide +kernel, by decide +kernel⟩, lw_t2 (List.mem_of_getElem? (i := 17) rfl), lw_t2 (List.mem_of_getElem? (i := 55) rfl), lw_t2 (List.mem_of_getElem? (i := 56) rfl)⟩
def lw_privs_1 : List (MethodName × Nat) := [(⟨"java/lang/Throwable", "fillInStackTrace", "(I)Ljava/lang/Throwable;"⟩, 6), (⟨"Instant", "plus", "(JJ)LInstant;"⟩, 2), (⟨"InstantDeskModel", "put", "(IJJ)V"⟩, 2), (⟨"InstantDeskModel", "open", "(I)Z"⟩, 2)]
theorem lw_r1 : ∀ q ∈ lw_privs_1, lw_okq q := List.forall_mem_cons.mpr ⟨lw_p0, List.forall_mem_cons.mpr ⟨lw_p1, List.forall_mem_cons.mpr ⟨lw_p2, List.forall_mem_cons.mpr ⟨lw_p3, fun _ h => absurd h List.not_mem_nil⟩⟩⟩⟩
def lw_privs : List (MethodName × Nat) := lw_privs_1
def lw_tbl : List Cond := k2_sels lw_privs ++ tables_1
theorem lw_privs_ok : ∀ q ∈ lw_privs, lw_okq q := lw_r1
-- ===== ONE list of words for every method: the tables' words that hold all through a run =====
def lw_all : List Cond := lw_tbl.filter goodWord
/-- a word of the tables by its place: claim/WORDS.tsv -/
theorem lw_w {w : Cond} (i : Nat) (h : lw_tbl[i]? = some w) (g : goodWord w = true) : w ∈ lw_all := List.mem_filter.mpr ⟨List.mem_of_getElem? h, g⟩
theorem lw_all_tbl {w : Cond} (h : w ∈ lw_all) : w ∈ lw_tbl := (List.mem_filter.mp h).1
theorem lw_self : GoodIn lw_all lw_all := fun w h => ⟨h, good_of_word (List.mem_filter.mp h).2⟩
/-- a class's field words, by their places -/
theorem lw_in (ws : List Cond) (ps : List Nat) (hp : ws = ps.filterMap (fun i => lw_tbl[i]?)) (hg : ws.all goodWord = true) : ∀ w ∈ ws, w ∈ lw_all := by
  intro w h
  have h1 := List.all_eq_true.mp hg w h
  rw [hp] at h
  obtain ⟨i, -, hi⟩ := List.mem_filterMap.mp h
  exact lw_w i hi h1
/-- the words of a contract for the method y with code b, L locals, answer r -/
abbrev ws_ (y : MethodName) (b : ByteArray) (L : Nat) (r : Option FieldType) : List Cond := Cond.code y b L r :: lw_all
theorem lw_meth {y : MethodName} {b : ByteArray} {L : Nat} {r : Option FieldType} (h : Cond.code y b L r ∈ lw_all) : GoodIn lw_all (ws_ y b L r) := by
  intro w hw
  rcases List.mem_cons.mp hw with e | e
  · rw [e]
    exact lw_self _ h
  · exact lw_self _ e
theorem lw_app {a c : List Cond} (ha : ∀ w ∈ a, w ∈ lw_all) (hc : GoodIn lw_all c) : GoodIn lw_all (a ++ c) := by
  intro w hw
  rcases List.mem_append.mp hw with e | e
  · exact lw_self w (ha w e)
  · exact hc w e
/-- what a call through an object asks: cwV n hts (lw_V ..) -/
theorem lw_V {own : String} {idx : Nat} {C : String} {y : MethodName} {b : ByteArray} {L : Nat} {r : Option FieldType} (h1 : Cond.methodLink own idx y ∈ lw_all) (h2 : Cond.instanceMethod y ∈ lw_all) (h3 : Cond.selects C y y ∈ lw_all) (h4 : Cond.initialized C ∈ lw_all) (h5 : Cond.code y b L r ∈ lw_all) : GoodIn lw_all (wsV own idx C y (ws_ y b L r)) := by
  refine lw_app ?_ (lw_meth h5)
  intro w hw
  simp only [List.mem_cons, List.not_mem_nil, or_false] at hw
  rcases hw with e | e | e | e
  · rw [e]; exact h1
  · rw [e]; exact h2
  · rw [e]; exact h3
  · rw [e]; exact h4
/-- what a static call asks: va_cwS n hts (lw_S ..) -/
theorem lw_S {own : String} {idx : Nat} {y : MethodName} {b : ByteArray} {L : Nat} {r : Option FieldType} (h1 : Cond.methodLink own idx y ∈ lw_all) (h2 : Cond.static y ∈ lw_all) (h3 : Cond.initialized y.cls ∈ lw_all) (h4 : Cond.code y b L r ∈ lw_all) : GoodIn lw_all (va_wsS own idx y (ws_ y b L r)) := by
  refine lw_app ?_ (lw_meth h4)
  intro w hw
  simp only [List.mem_cons, List.not_mem_nil, or_false] at hw
  rcases hw with e | e | e
  · rw [e]; exact h1
  · rw [e]; exact h2
  · rw [e]; exact h3
/-- the words of a contract for a method WITH HANDLERS (hh: its table) -/
abbrev wsW_ (y : MethodName) (b : ByteArray) (L : Nat) (r : Option FieldType) (hh : List (Nat × Nat × Nat × Nat)) : List Cond := Cond.codeWith y b L r hh :: lw_all
theorem lw_methW {y : MethodName} {b : ByteArray} {L : Nat} {r : Option FieldType} {hh : List (Nat × Nat × Nat × Nat)} (h : Cond.codeWith y b L r hh ∈ lw_all) : GoodIn lw_all (wsW_ y b L r hh) := by
  intro w hw
  rcases List.mem_cons.mp hw with e | e
  · rw [e]
    exact lw_self _ h
  · exact lw_self _ e
/-- any list of words by their places (lw_in), good -/
theorem lw_good {ws : List Cond} (h : ∀ w ∈ ws, w ∈ lw_all) : GoodIn lw_all ws := fun w hw => lw_self w (h w hw)
/-- what a call of a method with handlers asks: vx_cwVW n hts (lw_VW ..), vx_cwSW n hts (lw_SW ..) -/
theorem lw_VW {own : String} {idx : Nat} {C : String} {y : MethodName} {b : ByteArray} {L : Nat} {r : Option FieldType} {hh : List (Nat × Nat × Nat × Nat)} (h1 : Cond.methodLink own idx y ∈ lw_all) (h2 : Cond.instanceMethod y ∈ lw_all) (h3 : Cond.selects C y y ∈ lw_all) (h4 : Cond.initialized C ∈ lw_all) (h5 : Cond.codeWith y b L r hh ∈ lw_all) : GoodIn lw_all (wsV own idx C y (wsW_ y b L r hh)) := by
  refine lw_app ?_ (lw_methW h5)
  intro w hw
  simp only [List.mem_cons, List.not_mem_nil, or_false] at hw
  rcases hw with e | e | e | e
  · rw [e]; exact h1
  · rw [e]; exact h2
  · rw [e]; exact h3
  · rw [e]; exact h4
theorem lw_SW {own : String} {idx : Nat} {y : MethodName} {b : ByteArray} {L : Nat} {r : Option FieldType} {hh : List (Nat × Nat × Nat × Nat)} (h1 : Cond.methodLink own idx y ∈ lw_all) (h2 : Cond.static y ∈ lw_all) (h3 : Cond.initialized y.cls ∈ lw_all) (h4 : Cond.codeWith y b L r hh ∈ lw_all) : GoodIn lw_all (va_wsS own idx y (wsW_ y b L r hh)) := by
  refine lw_app ?_ (lw_methW h4)
  intro w hw
  simp only [List.mem_cons, List.not_mem_nil, or_false] at hw
  rcases hw with e | e | e
  · rw [e]; exact h1
  · rw [e]; exact h2
  · rw [e]; exact h3
/-- a word by its place in its run of the tables -/
theorem lw_at {r : List Cond} (hr : ∀ w ∈ r, w ∈ lw_tbl) {w : Cond} (i : Nat) (h : r[i]? = some w) : w ∈ lw_tbl := hr w (List.mem_of_getElem? h)
theorem lw_g {w : Cond} (h : w ∈ lw_tbl) (g : goodWord w = true) : w ∈ lw_all := List.mem_filter.mpr ⟨h, g⟩
theorem lw_ms : ∀ w ∈ k2_sels lw_privs, w ∈ lw_tbl := fun w h => show w ∈ k2_sels lw_privs ++ tables_1 from List.mem_append_left _ h
theorem lw_m1 : ∀ w ∈ tables_1_1, w ∈ lw_tbl := fun w h => show w ∈ k2_sels lw_privs ++ tables_1 from List.mem_append_right (k2_sels lw_privs) (show w ∈ tables_1 from List.mem_append_left _ h)
theorem lw_m2 : ∀ w ∈ tables_1_2, w ∈ lw_tbl := fun w h => show w ∈ k2_sels lw_privs ++ tables_1 from List.mem_append_right (k2_sels lw_privs) (show w ∈ tables_1 from List.mem_append_right _ h)
theorem qs0 : (Cond.selects "java/lang/Throwable" ⟨"java/lang/Throwable", "fillInStackTrace", "(I)Ljava/lang/Throwable;"⟩ ⟨"java/lang/Throwable", "fillInStackTrace", "(I)Ljava/lang/Throwable;"⟩) ∈ lw_all := lw_g (lw_at lw_ms 0 rfl) rfl
theorem qs1 : (Cond.selects "Instant" ⟨"Instant", "plus", "(JJ)LInstant;"⟩ ⟨"Instant", "plus", "(JJ)LInstant;"⟩) ∈ lw_all := lw_g (lw_at lw_ms 1 rfl) rfl
theorem qs2 : (Cond.selects "InstantDeskModel" ⟨"InstantDeskModel", "put", "(IJJ)V"⟩ ⟨"InstantDeskModel", "put", "(IJJ)V"⟩) ∈ lw_all := lw_g (lw_at lw_ms 2 rfl) rfl
theorem qs3 : (Cond.selects "InstantDeskModel" ⟨"InstantDeskModel", "open", "(I)Z"⟩ ⟨"InstantDeskModel", "open", "(I)Z"⟩) ∈ lw_all := lw_g (lw_at lw_ms 3 rfl) rfl
end
section
/-! DECODE ROWS BY BYTES: one lemma an opcode; a method's code is cut into short pieces once, and a row reads its own piece alone. -/
set_option maxRecDepth 100000
/-- the code has just these bytes from pc on -/
def DkAt (code : ByteArray) (pc : Nat) (bs : List UInt8) : Prop := ∀ (j : Nat) (b : UInt8), bs[j]? = some b → code.data.toList[pc + j]? = some b
/-- the piece W has the bytes bs from its place j on -/
def dkIn (W : List UInt8) (j : Nat) (bs : List UInt8) : Bool := decide ((W.drop j).take bs.length = bs)
theorem dk_seg {l W T : List UInt8} {o o2 : Nat} (h : l.drop o = W ++ T) (n : Nat) (hn : W.length = n) (ho : o + n = o2) : l.drop o2 = T := by
  subst ho
  rw [← List.drop_drop, h, List.drop_left' hn]
theorem dk_at {code : ByteArray} {W T bs : List UInt8} {o pc : Nat} (h : code.data.toList.drop o = W ++ T) (j : Nat) (hp : o + j = pc) (hw : dkIn W j bs = true) : DkAt code pc bs := by
  subst hp
  intro i b e
  have h1 := of_decide_eq_true hw
  have h2 : i < bs.length := (List.getElem?_eq_some_iff.mp e).1
  have h3 : W[j + i]? = some b := by
    rw [← h1, List.getElem?_take, if_pos h2, List.getElem?_drop] at e
    exact e
  have h4 : j + i < W.length := (List.getElem?_eq_some_iff.mp h3).1
  have h5 : (code.data.toList.drop o)[j + i]? = some b := by
    rw [h, List.getElem?_append_left h4]
    exact h3
  rw [List.getElem?_drop, ← Nat.add_assoc] at h5
  exact h5
theorem dk_u1 {A : ByteArray} {p : Nat} {b : UInt8} (h : A.data.toList[p]? = some b) : (Reader.u1 : Reader DecodeError Nat) A p = .ok (b.toNat, p + 1) := by
  obtain ⟨h1, h2⟩ := List.getElem?_eq_some_iff.mp h
  have h3 : p < A.size := by simpa using h1
  have h4 : A[p]'h3 = b := h2
  have e : (Reader.u1 : Reader DecodeError Nat) A p = (if h : p < A.size then .ok (A[p].toNat, p + 1) else .error (HasTruncated.truncated p)) := by
    show (do if h : p < A.size then do set (p + 1); Pure.pure A[p].toNat else MonadExcept.throw (HasTruncated.truncated p) : Reader DecodeError Nat) A p = _
    by_cases hi : p < A.size
    · rw [dif_pos hi, dif_pos hi]; rfl
    · rw [dif_neg hi, dif_neg hi]; rfl
  rw [e, dif_pos h3, h4]
theorem dk_bind {α β : Type} {r : Reader DecodeError α} {f : α → Reader DecodeError β} {A : ByteArray} {p s : Nat} {a : α} (h : r A p = .ok (a, s)) : (r >>= f) A p = f a A s := by
  show (do let (a, s) ← r A p; f a A s : Except DecodeError (β × Nat)) = _
  rw [h]
  rfl
theorem dk_map {α β : Type} {r : Reader DecodeError α} {g : α → β} {A : ByteArray} {p s : Nat} {a : α} (h : r A p = .ok (a, s)) : (g <$> r) A p = .ok (g a, s) := by
  show (do let (a, s) ← r A p; .ok (g a, s) : Except DecodeError (β × Nat)) = _
  rw [h]
  rfl
theorem dk_u2 {A : ByteArray} {p : Nat} {a b : UInt8} (h : A.data.toList[p]? = some a) (h2 : A.data.toList[p + 1]? = some b) : (Reader.u2 : Reader DecodeError Nat) A p = .ok (a.toNat * 256 + b.toNat, p + 2) := by
  show (Reader.u1 >>= fun hi => Reader.u1 >>= fun lo => Pure.pure (hi * 256 + lo) : Reader DecodeError Nat) A p = _
  rw [dk_bind (dk_u1 h), dk_bind (dk_u1 h2)]
  rfl
theorem dk_of {code : ByteArray} {pc n : Nat} {i : Instr} (h : Decoder.instr pc code pc = .ok (i, pc + n)) : decode code pc = .ok (i, n) := by
  have e : decode code pc = (match Decoder.instr pc code pc with | .error x => .error x | .ok (j, s) => .ok (j, s - pc)) := by
    show (do let (j, s) ← Decoder.instr pc code pc; Pure.pure (j, s - pc) : Except DecodeError (Instr × Nat)) = _
    cases Decoder.instr pc code pc <;> rfl
  rw [e, h]
  show Except.ok (i, pc + n - pc) = _
  rw [Nat.add_sub_cancel_left]
theorem dk_2 {code : ByteArray} {pc : Nat} (h : DkAt code pc [2]) : decode code pc = .ok (.iconst (-1), 1) := dk_of ((dk_bind (dk_u1 (h 0 _ rfl))).trans rfl)
theorem dk_3 {code : ByteArray} {pc : Nat} (h : DkAt code pc [3]) : decode code pc = .ok (.iconst 0, 1) := dk_of ((dk_bind (dk_u1 (h 0 _ rfl))).trans rfl)
theorem dk_4 {code : ByteArray} {pc : Nat} (h : DkAt code pc [4]) : decode code pc = .ok (.iconst 1, 1) := dk_of ((dk_bind (dk_u1 (h 0 _ rfl))).trans rfl)
theorem dk_5 {code : ByteArray} {pc : Nat} (h : DkAt code pc [5]) : decode code pc = .ok (.iconst 2, 1) := dk_of ((dk_bind (dk_u1 (h 0 _ rfl))).trans rfl)
theorem dk_6 {code : ByteArray} {pc : Nat} (h : DkAt code pc [6]) : decode code pc = .ok (.iconst 3, 1) := dk_of ((dk_bind (dk_u1 (h 0 _ rfl))).trans rfl)
theorem dk_7 {code : ByteArray} {pc : Nat} (h : DkAt code pc [7]) : decode code pc = .ok (.iconst 4, 1) := dk_of ((dk_bind (dk_u1 (h 0 _ rfl))).trans rfl)
theorem dk_9 {code : ByteArray} {pc : Nat} (h : DkAt code pc [9]) : decode code pc = .ok (.lconst 0, 1) := dk_of ((dk_bind (dk_u1 (h 0 _ rfl))).trans rfl)
theorem dk_10 {code : ByteArray} {pc : Nat} (h : DkAt code pc [10]) : decode code pc = .ok (.lconst 1, 1) := dk_of ((dk_bind (dk_u1 (h 0 _ rfl))).trans rfl)
theorem dk_16 {code : ByteArray} {pc : Nat} (a : UInt8) (h : DkAt code pc [16, a]) : decode code pc = .ok (.bipush (Reader.signed 8 a.toNat), 2) := dk_of ((dk_bind (dk_u1 (h 0 _ rfl))).trans ((dk_bind (dk_map (dk_u1 (h 1 _ rfl)))).trans rfl))
theorem dk_17 {code : ByteArray} {pc : Nat} (a b : UInt8) (h : DkAt code pc [17, a, b]) : decode code pc = .ok (.sipush (Reader.signed 16 (a.toNat * 256 + b.toNat)), 3) := dk_of ((dk_bind (dk_u1 (h 0 _ rfl))).trans ((dk_bind (dk_map (dk_u2 (h 1 _ rfl) (h 2 _ rfl)))).trans rfl))
theorem dk_18 {code : ByteArray} {pc : Nat} (a : UInt8) (h : DkAt code pc [18, a]) : decode code pc = .ok (.ldc a.toNat, 2) := dk_of ((dk_bind (dk_u1 (h 0 _ rfl))).trans ((dk_bind (dk_u1 (h 1 _ rfl))).trans rfl))
theorem dk_20 {code : ByteArray} {pc : Nat} (a b : UInt8) (h : DkAt code pc [20, a, b]) : decode code pc = .ok (.ldc2_w (a.toNat * 256 + b.toNat), 3) := dk_of ((dk_bind (dk_u1 (h 0 _ rfl))).trans ((dk_bind (dk_u2 (h 1 _ rfl) (h 2 _ rfl))).trans rfl))
theorem dk_21 {code : ByteArray} {pc : Nat} (a : UInt8) (h : DkAt code pc [21, a]) : decode code pc = .ok (.iload a.toNat, 2) := dk_of ((dk_bind (dk_u1 (h 0 _ rfl))).trans ((dk_bind (dk_u1 (h 1 _ rfl))).trans rfl))
theorem dk_22 {code : ByteArray} {pc : Nat} (a : UInt8) (h : DkAt code pc [22, a]) : decode code pc = .ok (.lload a.toNat, 2) := dk_of ((dk_bind (dk_u1 (h 0 _ rfl))).trans ((dk_bind (dk_u1 (h 1 _ rfl))).trans rfl))
theorem dk_26 {code : ByteArray} {pc : Nat} (h : DkAt code pc [26]) : decode code pc = .ok (.iload_n 0, 1) := dk_of ((dk_bind (dk_u1 (h 0 _ rfl))).trans rfl)
theorem dk_27 {code : ByteArray} {pc : Nat} (h : DkAt code pc [27]) : decode code pc = .ok (.iload_n 1, 1) := dk_of ((dk_bind (dk_u1 (h 0 _ rfl))).trans rfl)
theorem dk_28 {code : ByteArray} {pc : Nat} (h : DkAt code pc [28]) : decode code pc = .ok (.iload_n 2, 1) := dk_of ((dk_bind (dk_u1 (h 0 _ rfl))).trans rfl)
theorem dk_29 {code : ByteArray} {pc : Nat} (h : DkAt code pc [29]) : decode code pc = .ok (.iload_n 3, 1) := dk_of ((dk_bind (dk_u1 (h 0 _ rfl))).trans rfl)
theorem dk_30 {code : ByteArray} {pc : Nat} (h : DkAt code pc [30]) : decode code pc = .ok (.lload_n 0, 1) := dk_of ((dk_bind (dk_u1 (h 0 _ rfl))).trans rfl)
theorem dk_31 {code : ByteArray} {pc : Nat} (h : DkAt code pc [31]) : decode code pc = .ok (.lload_n 1, 1) := dk_of ((dk_bind (dk_u1 (h 0 _ rfl))).trans rfl)
theorem dk_32 {code : ByteArray} {pc : Nat} (h : DkAt code pc [32]) : decode code pc = .ok (.lload_n 2, 1) := dk_of ((dk_bind (dk_u1 (h 0 _ rfl))).trans rfl)
theorem dk_33 {code : ByteArray} {pc : Nat} (h : DkAt code pc [33]) : decode code pc = .ok (.lload_n 3, 1) := dk_of ((dk_bind (dk_u1 (h 0 _ rfl))).trans rfl)
theorem dk_42 {code : ByteArray} {pc : Nat} (h : DkAt code pc [42]) : decode code pc = .ok (.aload_n 0, 1) := dk_of ((dk_bind (dk_u1 (h 0 _ rfl))).trans rfl)
theorem dk_43 {code : ByteArray} {pc : Nat} (h : DkAt code pc [43]) : decode code pc = .ok (.aload_n 1, 1) := dk_of ((dk_bind (dk_u1 (h 0 _ rfl))).trans rfl)
theorem dk_44 {code : ByteArray} {pc : Nat} (h : DkAt code pc [44]) : decode code pc = .ok (.aload_n 2, 1) := dk_of ((dk_bind (dk_u1 (h 0 _ rfl))).trans rfl)
theorem dk_46 {code : ByteArray} {pc : Nat} (h : DkAt code pc [46]) : decode code pc = .ok (.iaload, 1) := dk_of ((dk_bind (dk_u1 (h 0 _ rfl))).trans rfl)
theorem dk_47 {code : ByteArray} {pc : Nat} (h : DkAt code pc [47]) : decode code pc = .ok (.laload, 1) := dk_of ((dk_bind (dk_u1 (h 0 _ rfl))).trans rfl)
theorem dk_50 {code : ByteArray} {pc : Nat} (h : DkAt code pc [50]) : decode code pc = .ok (.aaload, 1) := dk_of ((dk_bind (dk_u1 (h 0 _ rfl))).trans rfl)
theorem dk_54 {code : ByteArray} {pc : Nat} (a : UInt8) (h : DkAt code pc [54, a]) : decode code pc = .ok (.istore a.toNat, 2) := dk_of ((dk_bind (dk_u1 (h 0 _ rfl))).trans ((dk_bind (dk_u1 (h 1 _ rfl))).trans rfl))
theorem dk_55 {code : ByteArray} {pc : Nat} (a : UInt8) (h : DkAt code pc [55, a]) : decode code pc = .ok (.lstore a.toNat, 2) := dk_of ((dk_bind (dk_u1 (h 0 _ rfl))).trans ((dk_bind (dk_u1 (h 1 _ rfl))).trans rfl))
theorem dk_60 {code : ByteArray} {pc : Nat} (h : DkAt code pc [60]) : decode code pc = .ok (.istore_n 1, 1) := dk_of ((dk_bind (dk_u1 (h 0 _ rfl))).trans rfl)
theorem dk_61 {code : ByteArray} {pc : Nat} (h : DkAt code pc [61]) : decode code pc = .ok (.istore_n 2, 1) := dk_of ((dk_bind (dk_u1 (h 0 _ rfl))).trans rfl)
theorem dk_62 {code : ByteArray} {pc : Nat} (h : DkAt code pc [62]) : decode code pc = .ok (.istore_n 3, 1) := dk_of ((dk_bind (dk_u1 (h 0 _ rfl))).trans rfl)
theorem dk_64 {code : ByteArray} {pc : Nat} (h : DkAt code pc [64]) : decode code pc = .ok (.lstore_n 1, 1) := dk_of ((dk_bind (dk_u1 (h 0 _ rfl))).trans rfl)
theorem dk_65 {code : ByteArray} {pc : Nat} (h : DkAt code pc [65]) : decode code pc = .ok (.lstore_n 2, 1) := dk_of ((dk_bind (dk_u1 (h 0 _ rfl))).trans rfl)
theorem dk_66 {code : ByteArray} {pc : Nat} (h : DkAt code pc [66]) : decode code pc = .ok (.lstore_n 3, 1) := dk_of ((dk_bind (dk_u1 (h 0 _ rfl))).trans rfl)
theorem dk_76 {code : ByteArray} {pc : Nat} (h : DkAt code pc [76]) : decode code pc = .ok (.astore_n 1, 1) := dk_of ((dk_bind (dk_u1 (h 0 _ rfl))).trans rfl)
theorem dk_77 {code : ByteArray} {pc : Nat} (h : DkAt code pc [77]) : decode code pc = .ok (.astore_n 2, 1) := dk_of ((dk_bind (dk_u1 (h 0 _ rfl))).trans rfl)
theorem dk_80 {code : ByteArray} {pc : Nat} (h : DkAt code pc [80]) : decode code pc = .ok (.lastore, 1) := dk_of ((dk_bind (dk_u1 (h 0 _ rfl))).trans rfl)
theorem dk_83 {code : ByteArray} {pc : Nat} (h : DkAt code pc [83]) : decode code pc = .ok (.aastore, 1) := dk_of ((dk_bind (dk_u1 (h 0 _ rfl))).trans rfl)
theorem dk_87 {code : ByteArray} {pc : Nat} (h : DkAt code pc [87]) : decode code pc = .ok (.pop, 1) := dk_of ((dk_bind (dk_u1 (h 0 _ rfl))).trans rfl)
theorem dk_89 {code : ByteArray} {pc : Nat} (h : DkAt code pc [89]) : decode code pc = .ok (.dup, 1) := dk_of ((dk_bind (dk_u1 (h 0 _ rfl))).trans rfl)
theorem dk_96 {code : ByteArray} {pc : Nat} (h : DkAt code pc [96]) : decode code pc = .ok (.iadd, 1) := dk_of ((dk_bind (dk_u1 (h 0 _ rfl))).trans rfl)
theorem dk_97 {code : ByteArray} {pc : Nat} (h : DkAt code pc [97]) : decode code pc = .ok (.ladd, 1) := dk_of ((dk_bind (dk_u1 (h 0 _ rfl))).trans rfl)
theorem dk_100 {code : ByteArray} {pc : Nat} (h : DkAt code pc [100]) : decode code pc = .ok (.isub, 1) := dk_of ((dk_bind (dk_u1 (h 0 _ rfl))).trans rfl)
theorem dk_101 {code : ByteArray} {pc : Nat} (h : DkAt code pc [101]) : decode code pc = .ok (.lsub, 1) := dk_of ((dk_bind (dk_u1 (h 0 _ rfl))).trans rfl)
theorem dk_104 {code : ByteArray} {pc : Nat} (h : DkAt code pc [104]) : decode code pc = .ok (.imul, 1) := dk_of ((dk_bind (dk_u1 (h 0 _ rfl))).trans rfl)
theorem dk_105 {code : ByteArray} {pc : Nat} (h : DkAt code pc [105]) : decode code pc = .ok (.lmul, 1) := dk_of ((dk_bind (dk_u1 (h 0 _ rfl))).trans rfl)
theorem dk_108 {code : ByteArray} {pc : Nat} (h : DkAt code pc [108]) : decode code pc = .ok (.idiv, 1) := dk_of ((dk_bind (dk_u1 (h 0 _ rfl))).trans rfl)
theorem dk_109 {code : ByteArray} {pc : Nat} (h : DkAt code pc [109]) : decode code pc = .ok (.ldiv, 1) := dk_of ((dk_bind (dk_u1 (h 0 _ rfl))).trans rfl)
theorem dk_113 {code : ByteArray} {pc : Nat} (h : DkAt code pc [113]) : decode code pc = .ok (.lrem, 1) := dk_of ((dk_bind (dk_u1 (h 0 _ rfl))).trans rfl)
theorem dk_121 {code : ByteArray} {pc : Nat} (h : DkAt code pc [121]) : decode code pc = .ok (.lshl, 1) := dk_of ((dk_bind (dk_u1 (h 0 _ rfl))).trans rfl)
theorem dk_126 {code : ByteArray} {pc : Nat} (h : DkAt code pc [126]) : decode code pc = .ok (.iand, 1) := dk_of ((dk_bind (dk_u1 (h 0 _ rfl))).trans rfl)
theorem dk_127 {code : ByteArray} {pc : Nat} (h : DkAt code pc [127]) : decode code pc = .ok (.land, 1) := dk_of ((dk_bind (dk_u1 (h 0 _ rfl))).trans rfl)
theorem dk_129 {code : ByteArray} {pc : Nat} (h : DkAt code pc [129]) : decode code pc = .ok (.lor, 1) := dk_of ((dk_bind (dk_u1 (h 0 _ rfl))).trans rfl)
theorem dk_131 {code : ByteArray} {pc : Nat} (h : DkAt code pc [131]) : decode code pc = .ok (.lxor, 1) := dk_of ((dk_bind (dk_u1 (h 0 _ rfl))).trans rfl)
theorem dk_132 {code : ByteArray} {pc : Nat} (a b : UInt8) (h : DkAt code pc [132, a, b]) : decode code pc = .ok (.iinc a.toNat (Reader.signed 8 b.toNat), 3) := dk_of ((dk_bind (dk_u1 (h 0 _ rfl))).trans ((dk_bind (dk_u1 (h 1 _ rfl))).trans ((dk_bind (dk_map (dk_u1 (h 2 _ rfl)))).trans rfl)))
theorem dk_133 {code : ByteArray} {pc : Nat} (h : DkAt code pc [133]) : decode code pc = .ok (.i2l, 1) := dk_of ((dk_bind (dk_u1 (h 0 _ rfl))).trans rfl)
theorem dk_136 {code : ByteArray} {pc : Nat} (h : DkAt code pc [136]) : decode code pc = .ok (.l2i, 1) := dk_of ((dk_bind (dk_u1 (h 0 _ rfl))).trans rfl)
theorem dk_148 {code : ByteArray} {pc : Nat} (h : DkAt code pc [148]) : decode code pc = .ok (.lcmp, 1) := dk_of ((dk_bind (dk_u1 (h 0 _ rfl))).trans rfl)
theorem dk_153 {code : ByteArray} {pc : Nat} (a b : UInt8) (h : DkAt code pc [153, a, b]) : decode code pc = .ok (.ifCond .eq (Reader.signed 16 (a.toNat * 256 + b.toNat)), 3) := dk_of ((dk_bind (dk_u1 (h 0 _ rfl))).trans ((dk_bind (dk_map (dk_u2 (h 1 _ rfl) (h 2 _ rfl)))).trans rfl))
theorem dk_154 {code : ByteArray} {pc : Nat} (a b : UInt8) (h : DkAt code pc [154, a, b]) : decode code pc = .ok (.ifCond .ne (Reader.signed 16 (a.toNat * 256 + b.toNat)), 3) := dk_of ((dk_bind (dk_u1 (h 0 _ rfl))).trans ((dk_bind (dk_map (dk_u2 (h 1 _ rfl) (h 2 _ rfl)))).trans rfl))
theorem dk_155 {code : ByteArray} {pc : Nat} (a b : UInt8) (h : DkAt code pc [155, a, b]) : decode code pc = .ok (.ifCond .lt (Reader.signed 16 (a.toNat * 256 + b.toNat)), 3) := dk_of ((dk_bind (dk_u1 (h 0 _ rfl))).trans ((dk_bind (dk_map (dk_u2 (h 1 _ rfl) (h 2 _ rfl)))).trans rfl))
theorem dk_156 {code : ByteArray} {pc : Nat} (a b : UInt8) (h : DkAt code pc [156, a, b]) : decode code pc = .ok (.ifCond .ge (Reader.signed 16 (a.toNat * 256 + b.toNat)), 3) := dk_of ((dk_bind (dk_u1 (h 0 _ rfl))).trans ((dk_bind (dk_map (dk_u2 (h 1 _ rfl) (h 2 _ rfl)))).trans rfl))
theorem dk_157 {code : ByteArray} {pc : Nat} (a b : UInt8) (h : DkAt code pc [157, a, b]) : decode code pc = .ok (.ifCond .gt (Reader.signed 16 (a.toNat * 256 + b.toNat)), 3) := dk_of ((dk_bind (dk_u1 (h 0 _ rfl))).trans ((dk_bind (dk_map (dk_u2 (h 1 _ rfl) (h 2 _ rfl)))).trans rfl))
theorem dk_158 {code : ByteArray} {pc : Nat} (a b : UInt8) (h : DkAt code pc [158, a, b]) : decode code pc = .ok (.ifCond .le (Reader.signed 16 (a.toNat * 256 + b.toNat)), 3) := dk_of ((dk_bind (dk_u1 (h 0 _ rfl))).trans ((dk_bind (dk_map (dk_u2 (h 1 _ rfl) (h 2 _ rfl)))).trans rfl))
theorem dk_159 {code : ByteArray} {pc : Nat} (a b : UInt8) (h : DkAt code pc [159, a, b]) : decode code pc = .ok (.if_icmp .eq (Reader.signed 16 (a.toNat * 256 + b.toNat)), 3) := dk_of ((dk_bind (dk_u1 (h 0 _ rfl))).trans ((dk_bind (dk_map (dk_u2 (h 1 _ rfl) (h 2 _ rfl)))).trans rfl))
theorem dk_163 {code : ByteArray} {pc : Nat} (a b : UInt8) (h : DkAt code pc [163, a, b]) : decode code pc = .ok (.if_icmp .gt (Reader.signed 16 (a.toNat * 256 + b.toNat)), 3) := dk_of ((dk_bind (dk_u1 (h 0 _ rfl))).trans ((dk_bind (dk_map (dk_u2 (h 1 _ rfl) (h 2 _ rfl)))).trans rfl))
theorem dk_167 {code : ByteArray} {pc : Nat} (a b : UInt8) (h : DkAt code pc [167, a, b]) : decode code pc = .ok (.goto (Reader.signed 16 (a.toNat * 256 + b.toNat)), 3) := dk_of ((dk_bind (dk_u1 (h 0 _ rfl))).trans ((dk_bind (dk_map (dk_u2 (h 1 _ rfl) (h 2 _ rfl)))).trans rfl))
theorem dk_172 {code : ByteArray} {pc : Nat} (h : DkAt code pc [172]) : decode code pc = .ok (.ireturn, 1) := dk_of ((dk_bind (dk_u1 (h 0 _ rfl))).trans rfl)
theorem dk_173 {code : ByteArray} {pc : Nat} (h : DkAt code pc [173]) : decode code pc = .ok (.lreturn, 1) := dk_of ((dk_bind (dk_u1 (h 0 _ rfl))).trans rfl)
theorem dk_176 {code : ByteArray} {pc : Nat} (h : DkAt code pc [176]) : decode code pc = .ok (.areturn, 1) := dk_of ((dk_bind (dk_u1 (h 0 _ rfl))).trans rfl)
theorem dk_177 {code : ByteArray} {pc : Nat} (h : DkAt code pc [177]) : decode code pc = .ok (.return_, 1) := dk_of ((dk_bind (dk_u1 (h 0 _ rfl))).trans rfl)
theorem dk_178 {code : ByteArray} {pc : Nat} (a b : UInt8) (h : DkAt code pc [178, a, b]) : decode code pc = .ok (.getstatic (a.toNat * 256 + b.toNat), 3) := dk_of ((dk_bind (dk_u1 (h 0 _ rfl))).trans ((dk_bind (dk_u2 (h 1 _ rfl) (h 2 _ rfl))).trans rfl))
theorem dk_180 {code : ByteArray} {pc : Nat} (a b : UInt8) (h : DkAt code pc [180, a, b]) : decode code pc = .ok (.getfield (a.toNat * 256 + b.toNat), 3) := dk_of ((dk_bind (dk_u1 (h 0 _ rfl))).trans ((dk_bind (dk_u2 (h 1 _ rfl) (h 2 _ rfl))).trans rfl))
theorem dk_181 {code : ByteArray} {pc : Nat} (a b : UInt8) (h : DkAt code pc [181, a, b]) : decode code pc = .ok (.putfield (a.toNat * 256 + b.toNat), 3) := dk_of ((dk_bind (dk_u1 (h 0 _ rfl))).trans ((dk_bind (dk_u2 (h 1 _ rfl) (h 2 _ rfl))).trans rfl))
theorem dk_182 {code : ByteArray} {pc : Nat} (a b : UInt8) (h : DkAt code pc [182, a, b]) : decode code pc = .ok (.invokevirtual (a.toNat * 256 + b.toNat), 3) := dk_of ((dk_bind (dk_u1 (h 0 _ rfl))).trans ((dk_bind (dk_u2 (h 1 _ rfl) (h 2 _ rfl))).trans rfl))
theorem dk_183 {code : ByteArray} {pc : Nat} (a b : UInt8) (h : DkAt code pc [183, a, b]) : decode code pc = .ok (.invokespecial (a.toNat * 256 + b.toNat), 3) := dk_of ((dk_bind (dk_u1 (h 0 _ rfl))).trans ((dk_bind (dk_u2 (h 1 _ rfl) (h 2 _ rfl))).trans rfl))
theorem dk_184 {code : ByteArray} {pc : Nat} (a b : UInt8) (h : DkAt code pc [184, a, b]) : decode code pc = .ok (.invokestatic (a.toNat * 256 + b.toNat), 3) := dk_of ((dk_bind (dk_u1 (h 0 _ rfl))).trans ((dk_bind (dk_u2 (h 1 _ rfl) (h 2 _ rfl))).trans rfl))
theorem dk_187 {code : ByteArray} {pc : Nat} (a b : UInt8) (h : DkAt code pc [187, a, b]) : decode code pc = .ok (.new (a.toNat * 256 + b.toNat), 3) := dk_of ((dk_bind (dk_u1 (h 0 _ rfl))).trans ((dk_bind (dk_u2 (h 1 _ rfl) (h 2 _ rfl))).trans rfl))
theorem dk_188_11 {code : ByteArray} {pc : Nat} (h : DkAt code pc [188, 11]) : decode code pc = .ok (.newarray .long, 2) := dk_of ((dk_bind (dk_u1 (h 0 _ rfl))).trans ((dk_bind (dk_u1 (h 1 _ rfl))).trans rfl))
theorem dk_189 {code : ByteArray} {pc : Nat} (a b : UInt8) (h : DkAt code pc [189, a, b]) : decode code pc = .ok (.anewarray (a.toNat * 256 + b.toNat), 3) := dk_of ((dk_bind (dk_u1 (h 0 _ rfl))).trans ((dk_bind (dk_u2 (h 1 _ rfl) (h 2 _ rfl))).trans rfl))
theorem dk_190 {code : ByteArray} {pc : Nat} (h : DkAt code pc [190]) : decode code pc = .ok (.arraylength, 1) := dk_of ((dk_bind (dk_u1 (h 0 _ rfl))).trans rfl)
theorem dk_191 {code : ByteArray} {pc : Nat} (h : DkAt code pc [191]) : decode code pc = .ok (.athrow, 1) := dk_of ((dk_bind (dk_u1 (h 0 _ rfl))).trans rfl)
/-! java/lang/Object -/
set_option maxRecDepth 100000
def RJ4 : String := "java/lang/Object"
abbrev cJ4_init : ByteArray := object_method_1_code
def yJ4_init : MethodName := ⟨RJ4, "<init>", "()V"⟩
theorem dJ4_init_0 : decode cJ4_init 0 = .ok (.return_, 1) := by decide +kernel
theorem q21 : (Jvm.Cond.instanceMethod ({ cls := "java/lang/Object", name := "<init>", desc := "()V" } : Jvm.MethodName)) ∈ lw_all := lw_g (lw_at lw_m1 17 rfl) rfl
theorem q22 : (Jvm.Cond.code ({ cls := "java/lang/Object", name := "<init>", desc := "()V" } : Jvm.MethodName) object_method_1_code (1 : Nat) (Option.none : Option Jvm.ClassFile.FieldType)) ∈ lw_all := lw_g (lw_at lw_m1 18 rfl) rfl
/-! Jdk8Methods -/
set_option maxRecDepth 100000
def RX3 : String := "Jdk8Methods"
abbrev cX3_floorDiv : ByteArray := prog_7_method_5_code
def yX3_floorDiv : MethodName := ⟨RX3, "floorDiv", "(JJ)J"⟩
def dkwX3_floorDiv_0 : List UInt8 := [30, 9, 148, 155, 0, 9, 30, 32, 109, 167, 0, 10, 30, 10, 97, 32, 109, 10, 101, 173]
abbrev dktX3_floorDiv_0 : List UInt8 := dkwX3_floorDiv_0 ++ []
theorem dksX3_floorDiv_0 : cX3_floorDiv.data.toList.drop 0 = dktX3_floorDiv_0 := by decide +kernel
theorem dX3_floorDiv_0 : decode cX3_floorDiv 0 = .ok (.lload_n 0, 1) := dk_30 (dk_at dksX3_floorDiv_0 0 rfl rfl)
theorem dX3_floorDiv_1 : decode cX3_floorDiv 1 = .ok (.lconst 0, 1) := dk_9 (dk_at dksX3_floorDiv_0 1 rfl rfl)
theorem dX3_floorDiv_2 : decode cX3_floorDiv 2 = .ok (.lcmp, 1) := dk_148 (dk_at dksX3_floorDiv_0 2 rfl rfl)
theorem dX3_floorDiv_3 : decode cX3_floorDiv 3 = .ok (.ifCond .lt 9, 3) := dk_155 0 9 (dk_at dksX3_floorDiv_0 3 rfl rfl)
theorem dX3_floorDiv_6 : decode cX3_floorDiv 6 = .ok (.lload_n 0, 1) := dk_30 (dk_at dksX3_floorDiv_0 6 rfl rfl)
theorem dX3_floorDiv_7 : decode cX3_floorDiv 7 = .ok (.lload_n 2, 1) := dk_32 (dk_at dksX3_floorDiv_0 7 rfl rfl)
theorem dX3_floorDiv_8 : decode cX3_floorDiv 8 = .ok (.ldiv, 1) := dk_109 (dk_at dksX3_floorDiv_0 8 rfl rfl)
theorem dX3_floorDiv_9 : decode cX3_floorDiv 9 = .ok (.goto 10, 3) := dk_167 0 10 (dk_at dksX3_floorDiv_0 9 rfl rfl)
theorem dX3_floorDiv_12 : decode cX3_floorDiv 12 = .ok (.lload_n 0, 1) := dk_30 (dk_at dksX3_floorDiv_0 12 rfl rfl)
theorem dX3_floorDiv_13 : decode cX3_floorDiv 13 = .ok (.lconst 1, 1) := dk_10 (dk_at dksX3_floorDiv_0 13 rfl rfl)
theorem dX3_floorDiv_14 : decode cX3_floorDiv 14 = .ok (.ladd, 1) := dk_97 (dk_at dksX3_floorDiv_0 14 rfl rfl)
theorem dX3_floorDiv_15 : decode cX3_floorDiv 15 = .ok (.lload_n 2, 1) := dk_32 (dk_at dksX3_floorDiv_0 15 rfl rfl)
theorem dX3_floorDiv_16 : decode cX3_floorDiv 16 = .ok (.ldiv, 1) := dk_109 (dk_at dksX3_floorDiv_0 16 rfl rfl)
theorem dX3_floorDiv_17 : decode cX3_floorDiv 17 = .ok (.lconst 1, 1) := dk_10 (dk_at dksX3_floorDiv_0 17 rfl rfl)
theorem dX3_floorDiv_18 : decode cX3_floorDiv 18 = .ok (.lsub, 1) := dk_101 (dk_at dksX3_floorDiv_0 18 rfl rfl)
theorem dX3_floorDiv_19 : decode cX3_floorDiv 19 = .ok (.lreturn, 1) := dk_173 (dk_at dksX3_floorDiv_0 19 rfl rfl)
abbrev cX3_safeAdd : ByteArray := prog_7_method_2_code
def yX3_safeAdd : MethodName := ⟨RX3, "safeAdd", "(JJ)J"⟩
def dkwX3_safeAdd_1 : List UInt8 := [187, 0, 1, 89, 18, 3, 183, 0, 5, 191, 22, 4, 173]
abbrev dktX3_safeAdd_1 : List UInt8 := dkwX3_safeAdd_1 ++ []
def dkwX3_safeAdd_0 : List UInt8 := [30, 32, 97, 55, 4, 30, 22, 4, 131, 9, 148, 156, 0, 21, 30, 32, 131, 9, 148, 155, 0, 13]
abbrev dktX3_safeAdd_0 : List UInt8 := dkwX3_safeAdd_0 ++ dktX3_safeAdd_1
theorem dksX3_safeAdd_0 : cX3_safeAdd.data.toList.drop 0 = dktX3_safeAdd_0 := by decide +kernel
theorem dksX3_safeAdd_1 : cX3_safeAdd.data.toList.drop 22 = dktX3_safeAdd_1 := dk_seg dksX3_safeAdd_0 22 rfl rfl
theorem dX3_safeAdd_0 : decode cX3_safeAdd 0 = .ok (.lload_n 0, 1) := dk_30 (dk_at dksX3_safeAdd_0 0 rfl rfl)
theorem dX3_safeAdd_1 : decode cX3_safeAdd 1 = .ok (.lload_n 2, 1) := dk_32 (dk_at dksX3_safeAdd_0 1 rfl rfl)
theorem dX3_safeAdd_2 : decode cX3_safeAdd 2 = .ok (.ladd, 1) := dk_97 (dk_at dksX3_safeAdd_0 2 rfl rfl)
theorem dX3_safeAdd_3 : decode cX3_safeAdd 3 = .ok (.lstore 4, 2) := dk_55 4 (dk_at dksX3_safeAdd_0 3 rfl rfl)
theorem dX3_safeAdd_5 : decode cX3_safeAdd 5 = .ok (.lload_n 0, 1) := dk_30 (dk_at dksX3_safeAdd_0 5 rfl rfl)
theorem dX3_safeAdd_6 : decode cX3_safeAdd 6 = .ok (.lload 4, 2) := dk_22 4 (dk_at dksX3_safeAdd_0 6 rfl rfl)
theorem dX3_safeAdd_8 : decode cX3_safeAdd 8 = .ok (.lxor, 1) := dk_131 (dk_at dksX3_safeAdd_0 8 rfl rfl)
theorem dX3_safeAdd_9 : decode cX3_safeAdd 9 = .ok (.lconst 0, 1) := dk_9 (dk_at dksX3_safeAdd_0 9 rfl rfl)
theorem dX3_safeAdd_10 : decode cX3_safeAdd 10 = .ok (.lcmp, 1) := dk_148 (dk_at dksX3_safeAdd_0 10 rfl rfl)
theorem dX3_safeAdd_11 : decode cX3_safeAdd 11 = .ok (.ifCond .ge 21, 3) := dk_156 0 21 (dk_at dksX3_safeAdd_0 11 rfl rfl)
theorem dX3_safeAdd_14 : decode cX3_safeAdd 14 = .ok (.lload_n 0, 1) := dk_30 (dk_at dksX3_safeAdd_0 14 rfl rfl)
theorem dX3_safeAdd_15 : decode cX3_safeAdd 15 = .ok (.lload_n 2, 1) := dk_32 (dk_at dksX3_safeAdd_0 15 rfl rfl)
theorem dX3_safeAdd_16 : decode cX3_safeAdd 16 = .ok (.lxor, 1) := dk_131 (dk_at dksX3_safeAdd_0 16 rfl rfl)
theorem dX3_safeAdd_17 : decode cX3_safeAdd 17 = .ok (.lconst 0, 1) := dk_9 (dk_at dksX3_safeAdd_0 17 rfl rfl)
theorem dX3_safeAdd_18 : decode cX3_safeAdd 18 = .ok (.lcmp, 1) := dk_148 (dk_at dksX3_safeAdd_0 18 rfl rfl)
theorem dX3_safeAdd_19 : decode cX3_safeAdd 19 = .ok (.ifCond .lt 13, 3) := dk_155 0 13 (dk_at dksX3_safeAdd_0 19 rfl rfl)
theorem dX3_safeAdd_22 : decode cX3_safeAdd 22 = .ok (.new 1, 3) := dk_187 0 1 (dk_at dksX3_safeAdd_1 0 rfl rfl)
theorem dX3_safeAdd_25 : decode cX3_safeAdd 25 = .ok (.dup, 1) := dk_89 (dk_at dksX3_safeAdd_1 3 rfl rfl)
theorem dX3_safeAdd_26 : decode cX3_safeAdd 26 = .ok (.ldc 3, 2) := dk_18 3 (dk_at dksX3_safeAdd_1 4 rfl rfl)
theorem dX3_safeAdd_28 : decode cX3_safeAdd 28 = .ok (.invokespecial 5, 3) := dk_183 0 5 (dk_at dksX3_safeAdd_1 6 rfl rfl)
theorem dX3_safeAdd_31 : decode cX3_safeAdd 31 = .ok (.athrow, 1) := dk_191 (dk_at dksX3_safeAdd_1 9 rfl rfl)
theorem dX3_safeAdd_32 : decode cX3_safeAdd 32 = .ok (.lload 4, 2) := dk_22 4 (dk_at dksX3_safeAdd_1 10 rfl rfl)
theorem dX3_safeAdd_34 : decode cX3_safeAdd 34 = .ok (.lreturn, 1) := dk_173 (dk_at dksX3_safeAdd_1 12 rfl rfl)
abbrev cX3_floorMod : ByteArray := prog_7_method_6_code
def yX3_floorMod : MethodName := ⟨RX3, "floorMod", "(JI)I"⟩
def dkwX3_floorMod_0 : List UInt8 := [30, 28, 133, 113, 28, 133, 97, 28, 133, 113, 136, 172]
abbrev dktX3_floorMod_0 : List UInt8 := dkwX3_floorMod_0 ++ []
theorem dksX3_floorMod_0 : cX3_floorMod.data.toList.drop 0 = dktX3_floorMod_0 := by decide +kernel
theorem dX3_floorMod_0 : decode cX3_floorMod 0 = .ok (.lload_n 0, 1) := dk_30 (dk_at dksX3_floorMod_0 0 rfl rfl)
theorem dX3_floorMod_1 : decode cX3_floorMod 1 = .ok (.iload_n 2, 1) := dk_28 (dk_at dksX3_floorMod_0 1 rfl rfl)
theorem dX3_floorMod_2 : decode cX3_floorMod 2 = .ok (.i2l, 1) := dk_133 (dk_at dksX3_floorMod_0 2 rfl rfl)
theorem dX3_floorMod_3 : decode cX3_floorMod 3 = .ok (.lrem, 1) := dk_113 (dk_at dksX3_floorMod_0 3 rfl rfl)
theorem dX3_floorMod_4 : decode cX3_floorMod 4 = .ok (.iload_n 2, 1) := dk_28 (dk_at dksX3_floorMod_0 4 rfl rfl)
theorem dX3_floorMod_5 : decode cX3_floorMod 5 = .ok (.i2l, 1) := dk_133 (dk_at dksX3_floorMod_0 5 rfl rfl)
theorem dX3_floorMod_6 : decode cX3_floorMod 6 = .ok (.ladd, 1) := dk_97 (dk_at dksX3_floorMod_0 6 rfl rfl)
theorem dX3_floorMod_7 : decode cX3_floorMod 7 = .ok (.iload_n 2, 1) := dk_28 (dk_at dksX3_floorMod_0 7 rfl rfl)
theorem dX3_floorMod_8 : decode cX3_floorMod 8 = .ok (.i2l, 1) := dk_133 (dk_at dksX3_floorMod_0 8 rfl rfl)
theorem dX3_floorMod_9 : decode cX3_floorMod 9 = .ok (.lrem, 1) := dk_113 (dk_at dksX3_floorMod_0 9 rfl rfl)
theorem dX3_floorMod_10 : decode cX3_floorMod 10 = .ok (.l2i, 1) := dk_136 (dk_at dksX3_floorMod_0 10 rfl rfl)
theorem dX3_floorMod_11 : decode cX3_floorMod 11 = .ok (.ireturn, 1) := dk_172 (dk_at dksX3_floorMod_0 11 rfl rfl)
abbrev cX3_compareLongs : ByteArray := prog_7_method_1_code
def yX3_compareLongs : MethodName := ⟨RX3, "compareLongs", "(JJ)I"⟩
def dkwX3_compareLongs_0 : List UInt8 := [30, 32, 148, 156, 0, 5, 2, 172, 30, 32, 148, 158, 0, 5, 4, 172, 3, 172]
abbrev dktX3_compareLongs_0 : List UInt8 := dkwX3_compareLongs_0 ++ []
theorem dksX3_compareLongs_0 : cX3_compareLongs.data.toList.drop 0 = dktX3_compareLongs_0 := by decide +kernel
theorem dX3_compareLongs_0 : decode cX3_compareLongs 0 = .ok (.lload_n 0, 1) := dk_30 (dk_at dksX3_compareLongs_0 0 rfl rfl)
theorem dX3_compareLongs_1 : decode cX3_compareLongs 1 = .ok (.lload_n 2, 1) := dk_32 (dk_at dksX3_compareLongs_0 1 rfl rfl)
theorem dX3_compareLongs_2 : decode cX3_compareLongs 2 = .ok (.lcmp, 1) := dk_148 (dk_at dksX3_compareLongs_0 2 rfl rfl)
theorem dX3_compareLongs_3 : decode cX3_compareLongs 3 = .ok (.ifCond .ge 5, 3) := dk_156 0 5 (dk_at dksX3_compareLongs_0 3 rfl rfl)
theorem dX3_compareLongs_6 : decode cX3_compareLongs 6 = .ok (.iconst (-1), 1) := dk_2 (dk_at dksX3_compareLongs_0 6 rfl rfl)
theorem dX3_compareLongs_7 : decode cX3_compareLongs 7 = .ok (.ireturn, 1) := dk_172 (dk_at dksX3_compareLongs_0 7 rfl rfl)
theorem dX3_compareLongs_8 : decode cX3_compareLongs 8 = .ok (.lload_n 0, 1) := dk_30 (dk_at dksX3_compareLongs_0 8 rfl rfl)
theorem dX3_compareLongs_9 : decode cX3_compareLongs 9 = .ok (.lload_n 2, 1) := dk_32 (dk_at dksX3_compareLongs_0 9 rfl rfl)
theorem dX3_compareLongs_10 : decode cX3_compareLongs 10 = .ok (.lcmp, 1) := dk_148 (dk_at dksX3_compareLongs_0 10 rfl rfl)
theorem dX3_compareLongs_11 : decode cX3_compareLongs 11 = .ok (.ifCond .le 5, 3) := dk_158 0 5 (dk_at dksX3_compareLongs_0 11 rfl rfl)
theorem dX3_compareLongs_14 : decode cX3_compareLongs 14 = .ok (.iconst 1, 1) := dk_4 (dk_at dksX3_compareLongs_0 14 rfl rfl)
theorem dX3_compareLongs_15 : decode cX3_compareLongs 15 = .ok (.ireturn, 1) := dk_172 (dk_at dksX3_compareLongs_0 15 rfl rfl)
theorem dX3_compareLongs_16 : decode cX3_compareLongs 16 = .ok (.iconst 0, 1) := dk_3 (dk_at dksX3_compareLongs_0 16 rfl rfl)
theorem dX3_compareLongs_17 : decode cX3_compareLongs 17 = .ok (.ireturn, 1) := dk_172 (dk_at dksX3_compareLongs_0 17 rfl rfl)
abbrev cX3_safeMultiply : ByteArray := prog_7_method_4_code
def yX3_safeMultiply : MethodName := ⟨RX3, "safeMultiply", "(JJ)J"⟩
def dkwX3_safeMultiply_3 : List UInt8 := [148, 154, 0, 13, 187, 0, 1, 89, 18, 3, 183, 0, 5, 191, 22, 4, 173]
abbrev dktX3_safeMultiply_3 : List UInt8 := dkwX3_safeMultiply_3 ++ []
def dkwX3_safeMultiply_2 : List UInt8 := [148, 154, 0, 11, 32, 20, 0, 13, 148, 153, 0, 19, 32, 20, 0, 11, 148, 154, 0, 21, 30, 20, 0, 13]
abbrev dktX3_safeMultiply_2 : List UInt8 := dkwX3_safeMultiply_2 ++ dktX3_safeMultiply_3
def dkwX3_safeMultiply_1 : List UInt8 := [148, 154, 0, 5, 9, 173, 30, 32, 105, 55, 4, 22, 4, 32, 109, 30, 148, 154, 0, 35, 30, 20, 0, 11]
abbrev dktX3_safeMultiply_1 : List UInt8 := dkwX3_safeMultiply_1 ++ dktX3_safeMultiply_2
def dkwX3_safeMultiply_0 : List UInt8 := [32, 10, 148, 154, 0, 5, 30, 173, 30, 10, 148, 154, 0, 5, 32, 173, 30, 9, 148, 153, 0, 9, 32, 9]
abbrev dktX3_safeMultiply_0 : List UInt8 := dkwX3_safeMultiply_0 ++ dktX3_safeMultiply_1
theorem dksX3_safeMultiply_0 : cX3_safeMultiply.data.toList.drop 0 = dktX3_safeMultiply_0 := by decide +kernel
theorem dksX3_safeMultiply_1 : cX3_safeMultiply.data.toList.drop 24 = dktX3_safeMultiply_1 := dk_seg dksX3_safeMultiply_0 24 rfl rfl
theorem dksX3_safeMultiply_2 : cX3_safeMultiply.data.toList.drop 48 = dktX3_safeMultiply_2 := dk_seg dksX3_safeMultiply_1 24 rfl rfl
theorem dksX3_safeMultiply_3 : cX3_safeMultiply.data.toList.drop 72 = dktX3_safeMultiply_3 := dk_seg dksX3_safeMultiply_2 24 rfl rfl
theorem dX3_safeMultiply_0 : decode cX3_safeMultiply 0 = .ok (.lload_n 2, 1) := dk_32 (dk_at dksX3_safeMultiply_0 0 rfl rfl)
theorem dX3_safeMultiply_1 : decode cX3_safeMultiply 1 = .ok (.lconst 1, 1) := dk_10 (dk_at dksX3_safeMultiply_0 1 rfl rfl)
theorem dX3_safeMultiply_2 : decode cX3_safeMultiply 2 = .ok (.lcmp, 1) := dk_148 (dk_at dksX3_safeMultiply_0 2 rfl rfl)
theorem dX3_safeMultiply_3 : decode cX3_safeMultiply 3 = .ok (.ifCond .ne 5, 3) := dk_154 0 5 (dk_at dksX3_safeMultiply_0 3 rfl rfl)
theorem dX3_safeMultiply_6 : decode cX3_safeMultiply 6 = .ok (.lload_n 0, 1) := dk_30 (dk_at dksX3_safeMultiply_0 6 rfl rfl)
theorem dX3_safeMultiply_7 : decode cX3_safeMultiply 7 = .ok (.lreturn, 1) := dk_173 (dk_at dksX3_safeMultiply_0 7 rfl rfl)
theorem dX3_safeMultiply_8 : decode cX3_safeMultiply 8 = .ok (.lload_n 0, 1) := dk_30 (dk_at dksX3_safeMultiply_0 8 rfl rfl)
theorem dX3_safeMultiply_9 : decode cX3_safeMultiply 9 = .ok (.lconst 1, 1) := dk_10 (dk_at dksX3_safeMultiply_0 9 rfl rfl)
theorem dX3_safeMultiply_10 : decode cX3_safeMultiply 10 = .ok (.lcmp, 1) := dk_148 (dk_at dksX3_safeMultiply_0 10 rfl rfl)
theorem dX3_safeMultiply_11 : decode cX3_safeMultiply 11 = .ok (.ifCond .ne 5, 3) := dk_154 0 5 (dk_at dksX3_safeMultiply_0 11 rfl rfl)
theorem dX3_safeMultiply_14 : decode cX3_safeMultiply 14 = .ok (.lload_n 2, 1) := dk_32 (dk_at dksX3_safeMultiply_0 14 rfl rfl)
theorem dX3_safeMultiply_15 : decode cX3_safeMultiply 15 = .ok (.lreturn, 1) := dk_173 (dk_at dksX3_safeMultiply_0 15 rfl rfl)
theorem dX3_safeMultiply_16 : decode cX3_safeMultiply 16 = .ok (.lload_n 0, 1) := dk_30 (dk_at dksX3_safeMultiply_0 16 rfl rfl)
theorem dX3_safeMultiply_17 : decode cX3_safeMultiply 17 = .ok (.lconst 0, 1) := dk_9 (dk_at dksX3_safeMultiply_0 17 rfl rfl)
theorem dX3_safeMultiply_18 : decode cX3_safeMultiply 18 = .ok (.lcmp, 1) := dk_148 (dk_at dksX3_safeMultiply_0 18 rfl rfl)
theorem dX3_safeMultiply_19 : decode cX3_safeMultiply 19 = .ok (.ifCond .eq 9, 3) := dk_153 0 9 (dk_at dksX3_safeMultiply_0 19 rfl rfl)
theorem dX3_safeMultiply_22 : decode cX3_safeMultiply 22 = .ok (.lload_n 2, 1) := dk_32 (dk_at dksX3_safeMultiply_0 22 rfl rfl)
theorem dX3_safeMultiply_23 : decode cX3_safeMultiply 23 = .ok (.lconst 0, 1) := dk_9 (dk_at dksX3_safeMultiply_0 23 rfl rfl)
theorem dX3_safeMultiply_24 : decode cX3_safeMultiply 24 = .ok (.lcmp, 1) := dk_148 (dk_at dksX3_safeMultiply_1 0 rfl rfl)
theorem dX3_safeMultiply_25 : decode cX3_safeMultiply 25 = .ok (.ifCond .ne 5, 3) := dk_154 0 5 (dk_at dksX3_safeMultiply_1 1 rfl rfl)
theorem dX3_safeMultiply_28 : decode cX3_safeMultiply 28 = .ok (.lconst 0, 1) := dk_9 (dk_at dksX3_safeMultiply_1 4 rfl rfl)
theorem dX3_safeMultiply_29 : decode cX3_safeMultiply 29 = .ok (.lreturn, 1) := dk_173 (dk_at dksX3_safeMultiply_1 5 rfl rfl)
theorem dX3_safeMultiply_30 : decode cX3_safeMultiply 30 = .ok (.lload_n 0, 1) := dk_30 (dk_at dksX3_safeMultiply_1 6 rfl rfl)
theorem dX3_safeMultiply_31 : decode cX3_safeMultiply 31 = .ok (.lload_n 2, 1) := dk_32 (dk_at dksX3_safeMultiply_1 7 rfl rfl)
theorem dX3_safeMultiply_32 : decode cX3_safeMultiply 32 = .ok (.lmul, 1) := dk_105 (dk_at dksX3_safeMultiply_1 8 rfl rfl)
theorem dX3_safeMultiply_33 : decode cX3_safeMultiply 33 = .ok (.lstore 4, 2) := dk_55 4 (dk_at dksX3_safeMultiply_1 9 rfl rfl)
theorem dX3_safeMultiply_35 : decode cX3_safeMultiply 35 = .ok (.lload 4, 2) := dk_22 4 (dk_at dksX3_safeMultiply_1 11 rfl rfl)
theorem dX3_safeMultiply_37 : decode cX3_safeMultiply 37 = .ok (.lload_n 2, 1) := dk_32 (dk_at dksX3_safeMultiply_1 13 rfl rfl)
theorem dX3_safeMultiply_38 : decode cX3_safeMultiply 38 = .ok (.ldiv, 1) := dk_109 (dk_at dksX3_safeMultiply_1 14 rfl rfl)
theorem dX3_safeMultiply_39 : decode cX3_safeMultiply 39 = .ok (.lload_n 0, 1) := dk_30 (dk_at dksX3_safeMultiply_1 15 rfl rfl)
theorem dX3_safeMultiply_40 : decode cX3_safeMultiply 40 = .ok (.lcmp, 1) := dk_148 (dk_at dksX3_safeMultiply_1 16 rfl rfl)
theorem dX3_safeMultiply_41 : decode cX3_safeMultiply 41 = .ok (.ifCond .ne 35, 3) := dk_154 0 35 (dk_at dksX3_safeMultiply_1 17 rfl rfl)
theorem dX3_safeMultiply_44 : decode cX3_safeMultiply 44 = .ok (.lload_n 0, 1) := dk_30 (dk_at dksX3_safeMultiply_1 20 rfl rfl)
theorem dX3_safeMultiply_45 : decode cX3_safeMultiply 45 = .ok (.ldc2_w 11, 3) := dk_20 0 11 (dk_at dksX3_safeMultiply_1 21 rfl rfl)
theorem dX3_safeMultiply_48 : decode cX3_safeMultiply 48 = .ok (.lcmp, 1) := dk_148 (dk_at dksX3_safeMultiply_2 0 rfl rfl)
theorem dX3_safeMultiply_49 : decode cX3_safeMultiply 49 = .ok (.ifCond .ne 11, 3) := dk_154 0 11 (dk_at dksX3_safeMultiply_2 1 rfl rfl)
theorem dX3_safeMultiply_52 : decode cX3_safeMultiply 52 = .ok (.lload_n 2, 1) := dk_32 (dk_at dksX3_safeMultiply_2 4 rfl rfl)
theorem dX3_safeMultiply_53 : decode cX3_safeMultiply 53 = .ok (.ldc2_w 13, 3) := dk_20 0 13 (dk_at dksX3_safeMultiply_2 5 rfl rfl)
theorem dX3_safeMultiply_56 : decode cX3_safeMultiply 56 = .ok (.lcmp, 1) := dk_148 (dk_at dksX3_safeMultiply_2 8 rfl rfl)
theorem dX3_safeMultiply_57 : decode cX3_safeMultiply 57 = .ok (.ifCond .eq 19, 3) := dk_153 0 19 (dk_at dksX3_safeMultiply_2 9 rfl rfl)
theorem dX3_safeMultiply_60 : decode cX3_safeMultiply 60 = .ok (.lload_n 2, 1) := dk_32 (dk_at dksX3_safeMultiply_2 12 rfl rfl)
theorem dX3_safeMultiply_61 : decode cX3_safeMultiply 61 = .ok (.ldc2_w 11, 3) := dk_20 0 11 (dk_at dksX3_safeMultiply_2 13 rfl rfl)
theorem dX3_safeMultiply_64 : decode cX3_safeMultiply 64 = .ok (.lcmp, 1) := dk_148 (dk_at dksX3_safeMultiply_2 16 rfl rfl)
theorem dX3_safeMultiply_65 : decode cX3_safeMultiply 65 = .ok (.ifCond .ne 21, 3) := dk_154 0 21 (dk_at dksX3_safeMultiply_2 17 rfl rfl)
theorem dX3_safeMultiply_68 : decode cX3_safeMultiply 68 = .ok (.lload_n 0, 1) := dk_30 (dk_at dksX3_safeMultiply_2 20 rfl rfl)
theorem dX3_safeMultiply_69 : decode cX3_safeMultiply 69 = .ok (.ldc2_w 13, 3) := dk_20 0 13 (dk_at dksX3_safeMultiply_2 21 rfl rfl)
theorem dX3_safeMultiply_72 : decode cX3_safeMultiply 72 = .ok (.lcmp, 1) := dk_148 (dk_at dksX3_safeMultiply_3 0 rfl rfl)
theorem dX3_safeMultiply_73 : decode cX3_safeMultiply 73 = .ok (.ifCond .ne 13, 3) := dk_154 0 13 (dk_at dksX3_safeMultiply_3 1 rfl rfl)
theorem dX3_safeMultiply_76 : decode cX3_safeMultiply 76 = .ok (.new 1, 3) := dk_187 0 1 (dk_at dksX3_safeMultiply_3 4 rfl rfl)
theorem dX3_safeMultiply_79 : decode cX3_safeMultiply 79 = .ok (.dup, 1) := dk_89 (dk_at dksX3_safeMultiply_3 7 rfl rfl)
theorem dX3_safeMultiply_80 : decode cX3_safeMultiply 80 = .ok (.ldc 3, 2) := dk_18 3 (dk_at dksX3_safeMultiply_3 8 rfl rfl)
theorem dX3_safeMultiply_82 : decode cX3_safeMultiply 82 = .ok (.invokespecial 5, 3) := dk_183 0 5 (dk_at dksX3_safeMultiply_3 10 rfl rfl)
theorem dX3_safeMultiply_85 : decode cX3_safeMultiply 85 = .ok (.athrow, 1) := dk_191 (dk_at dksX3_safeMultiply_3 13 rfl rfl)
theorem dX3_safeMultiply_86 : decode cX3_safeMultiply 86 = .ok (.lload 4, 2) := dk_22 4 (dk_at dksX3_safeMultiply_3 14 rfl rfl)
theorem dX3_safeMultiply_88 : decode cX3_safeMultiply 88 = .ok (.lreturn, 1) := dk_173 (dk_at dksX3_safeMultiply_3 16 rfl rfl)
abbrev cX3_safeSubtract : ByteArray := prog_7_method_3_code
def yX3_safeSubtract : MethodName := ⟨RX3, "safeSubtract", "(JJ)J"⟩
def dkwX3_safeSubtract_1 : List UInt8 := [187, 0, 1, 89, 18, 3, 183, 0, 5, 191, 22, 4, 173]
abbrev dktX3_safeSubtract_1 : List UInt8 := dkwX3_safeSubtract_1 ++ []
def dkwX3_safeSubtract_0 : List UInt8 := [30, 32, 101, 55, 4, 30, 22, 4, 131, 9, 148, 156, 0, 21, 30, 32, 131, 9, 148, 156, 0, 13]
abbrev dktX3_safeSubtract_0 : List UInt8 := dkwX3_safeSubtract_0 ++ dktX3_safeSubtract_1
theorem dksX3_safeSubtract_0 : cX3_safeSubtract.data.toList.drop 0 = dktX3_safeSubtract_0 := by decide +kernel
theorem dksX3_safeSubtract_1 : cX3_safeSubtract.data.toList.drop 22 = dktX3_safeSubtract_1 := dk_seg dksX3_safeSubtract_0 22 rfl rfl
theorem dX3_safeSubtract_0 : decode cX3_safeSubtract 0 = .ok (.lload_n 0, 1) := dk_30 (dk_at dksX3_safeSubtract_0 0 rfl rfl)
theorem dX3_safeSubtract_1 : decode cX3_safeSubtract 1 = .ok (.lload_n 2, 1) := dk_32 (dk_at dksX3_safeSubtract_0 1 rfl rfl)
theorem dX3_safeSubtract_2 : decode cX3_safeSubtract 2 = .ok (.lsub, 1) := dk_101 (dk_at dksX3_safeSubtract_0 2 rfl rfl)
theorem dX3_safeSubtract_3 : decode cX3_safeSubtract 3 = .ok (.lstore 4, 2) := dk_55 4 (dk_at dksX3_safeSubtract_0 3 rfl rfl)
theorem dX3_safeSubtract_5 : decode cX3_safeSubtract 5 = .ok (.lload_n 0, 1) := dk_30 (dk_at dksX3_safeSubtract_0 5 rfl rfl)
theorem dX3_safeSubtract_6 : decode cX3_safeSubtract 6 = .ok (.lload 4, 2) := dk_22 4 (dk_at dksX3_safeSubtract_0 6 rfl rfl)
theorem dX3_safeSubtract_8 : decode cX3_safeSubtract 8 = .ok (.lxor, 1) := dk_131 (dk_at dksX3_safeSubtract_0 8 rfl rfl)
theorem dX3_safeSubtract_9 : decode cX3_safeSubtract 9 = .ok (.lconst 0, 1) := dk_9 (dk_at dksX3_safeSubtract_0 9 rfl rfl)
theorem dX3_safeSubtract_10 : decode cX3_safeSubtract 10 = .ok (.lcmp, 1) := dk_148 (dk_at dksX3_safeSubtract_0 10 rfl rfl)
theorem dX3_safeSubtract_11 : decode cX3_safeSubtract 11 = .ok (.ifCond .ge 21, 3) := dk_156 0 21 (dk_at dksX3_safeSubtract_0 11 rfl rfl)
theorem dX3_safeSubtract_14 : decode cX3_safeSubtract 14 = .ok (.lload_n 0, 1) := dk_30 (dk_at dksX3_safeSubtract_0 14 rfl rfl)
theorem dX3_safeSubtract_15 : decode cX3_safeSubtract 15 = .ok (.lload_n 2, 1) := dk_32 (dk_at dksX3_safeSubtract_0 15 rfl rfl)
theorem dX3_safeSubtract_16 : decode cX3_safeSubtract 16 = .ok (.lxor, 1) := dk_131 (dk_at dksX3_safeSubtract_0 16 rfl rfl)
theorem dX3_safeSubtract_17 : decode cX3_safeSubtract 17 = .ok (.lconst 0, 1) := dk_9 (dk_at dksX3_safeSubtract_0 17 rfl rfl)
theorem dX3_safeSubtract_18 : decode cX3_safeSubtract 18 = .ok (.lcmp, 1) := dk_148 (dk_at dksX3_safeSubtract_0 18 rfl rfl)
theorem dX3_safeSubtract_19 : decode cX3_safeSubtract 19 = .ok (.ifCond .ge 13, 3) := dk_156 0 13 (dk_at dksX3_safeSubtract_0 19 rfl rfl)
theorem dX3_safeSubtract_22 : decode cX3_safeSubtract 22 = .ok (.new 1, 3) := dk_187 0 1 (dk_at dksX3_safeSubtract_1 0 rfl rfl)
theorem dX3_safeSubtract_25 : decode cX3_safeSubtract 25 = .ok (.dup, 1) := dk_89 (dk_at dksX3_safeSubtract_1 3 rfl rfl)
theorem dX3_safeSubtract_26 : decode cX3_safeSubtract 26 = .ok (.ldc 3, 2) := dk_18 3 (dk_at dksX3_safeSubtract_1 4 rfl rfl)
theorem dX3_safeSubtract_28 : decode cX3_safeSubtract 28 = .ok (.invokespecial 5, 3) := dk_183 0 5 (dk_at dksX3_safeSubtract_1 6 rfl rfl)
theorem dX3_safeSubtract_31 : decode cX3_safeSubtract 31 = .ok (.athrow, 1) := dk_191 (dk_at dksX3_safeSubtract_1 9 rfl rfl)
theorem dX3_safeSubtract_32 : decode cX3_safeSubtract 32 = .ok (.lload 4, 2) := dk_22 4 (dk_at dksX3_safeSubtract_1 10 rfl rfl)
theorem dX3_safeSubtract_34 : decode cX3_safeSubtract 34 = .ok (.lreturn, 1) := dk_173 (dk_at dksX3_safeSubtract_1 12 rfl rfl)
theorem q8 : (Jvm.Cond.initialized "Jdk8Methods") ∈ lw_all := lw_g (lw_at lw_m1 4 rfl) rfl
theorem q30 : (Jvm.Cond.static ({ cls := "Jdk8Methods", name := "floorDiv", desc := "(JJ)J" } : Jvm.MethodName)) ∈ lw_all := lw_g (lw_at lw_m1 26 rfl) rfl
theorem q31 : (Jvm.Cond.code ({ cls := "Jdk8Methods", name := "floorDiv", desc := "(JJ)J" } : Jvm.MethodName) prog_7_method_5_code (4 : Nat) (Option.some Jvm.ClassFile.FieldType.long)) ∈ lw_all := lw_g (lw_at lw_m1 27 rfl) rfl
theorem q33 : (Jvm.Cond.static ({ cls := "Jdk8Methods", name := "safeAdd", desc := "(JJ)J" } : Jvm.MethodName)) ∈ lw_all := lw_g (lw_at lw_m1 29 rfl) rfl
theorem q34 : (Jvm.Cond.code ({ cls := "Jdk8Methods", name := "safeAdd", desc := "(JJ)J" } : Jvm.MethodName) prog_7_method_2_code (6 : Nat) (Option.some Jvm.ClassFile.FieldType.long)) ∈ lw_all := lw_g (lw_at lw_m1 30 rfl) rfl
theorem q35 : (Jvm.Cond.classLink "Jdk8Methods" (1 : Nat) "java/lang/ArithmeticException") ∈ lw_all := lw_g (lw_at lw_m1 31 rfl) rfl
theorem q75 : (Jvm.Cond.stringRef "Jdk8Methods" (3 : Nat) "left out") ∈ lw_tbl := lw_at lw_m1 71 rfl
theorem q76 : (Jvm.Cond.methodLink "Jdk8Methods" (5 : Nat) ({ cls := "java/lang/ArithmeticException", name := "<init>", desc := "(Ljava/lang/String;)V" } : Jvm.MethodName)) ∈ lw_all := lw_g (lw_at lw_m1 72 rfl) rfl
theorem q104 : (Jvm.Cond.static ({ cls := "Jdk8Methods", name := "floorMod", desc := "(JI)I" } : Jvm.MethodName)) ∈ lw_all := lw_g (lw_at lw_m1 100 rfl) rfl
theorem q105 : (Jvm.Cond.code ({ cls := "Jdk8Methods", name := "floorMod", desc := "(JI)I" } : Jvm.MethodName) prog_7_method_6_code (3 : Nat) (Option.some Jvm.ClassFile.FieldType.int)) ∈ lw_all := lw_g (lw_at lw_m1 101 rfl) rfl
theorem q227 : (Jvm.Cond.static ({ cls := "Jdk8Methods", name := "compareLongs", desc := "(JJ)I" } : Jvm.MethodName)) ∈ lw_all := lw_g (lw_at lw_m1 223 rfl) rfl
theorem q228 : (Jvm.Cond.code ({ cls := "Jdk8Methods", name := "compareLongs", desc := "(JJ)I" } : Jvm.MethodName) prog_7_method_1_code (4 : Nat) (Option.some Jvm.ClassFile.FieldType.int)) ∈ lw_all := lw_g (lw_at lw_m1 224 rfl) rfl
theorem q253 : (Jvm.Cond.static ({ cls := "Jdk8Methods", name := "safeMultiply", desc := "(JJ)J" } : Jvm.MethodName)) ∈ lw_all := lw_g (lw_at lw_m2 9 rfl) rfl
theorem q254 : (Jvm.Cond.code ({ cls := "Jdk8Methods", name := "safeMultiply", desc := "(JJ)J" } : Jvm.MethodName) prog_7_method_4_code (6 : Nat) (Option.some Jvm.ClassFile.FieldType.long)) ∈ lw_all := lw_g (lw_at lw_m2 10 rfl) rfl
theorem q255 : (Jvm.Cond.constantLong "Jdk8Methods" (11 : Nat) (-9223372036854775808 : Int64)) ∈ lw_all := lw_g (lw_at lw_m2 11 rfl) rfl
theorem q256 : (Jvm.Cond.constantLong "Jdk8Methods" (13 : Nat) (-1 : Int64)) ∈ lw_all := lw_g (lw_at lw_m2 12 rfl) rfl
theorem q258 : (Jvm.Cond.static ({ cls := "Jdk8Methods", name := "safeSubtract", desc := "(JJ)J" } : Jvm.MethodName)) ∈ lw_all := lw_g (lw_at lw_m2 14 rfl) rfl
theorem q259 : (Jvm.Cond.code ({ cls := "Jdk8Methods", name := "safeSubtract", desc := "(JJ)J" } : Jvm.MethodName) prog_7_method_3_code (6 : Nat) (Option.some Jvm.ClassFile.FieldType.long)) ∈ lw_all := lw_g (lw_at lw_m2 15 rfl) rfl
/-! DefaultInterfaceTemporalAccessor -/
set_option maxRecDepth 100000
def RX1 : String := "DefaultInterfaceTemporalAccessor"
abbrev cX1_init : ByteArray := prog_2_method_1_code
def yX1_init : MethodName := ⟨RX1, "<init>", "()V"⟩
theorem dX1_init_0 : decode cX1_init 0 = .ok (.aload_n 0, 1) := by decide +kernel
theorem dX1_init_1 : decode cX1_init 1 = .ok (.invokespecial 1, 3) := by decide +kernel
theorem dX1_init_4 : decode cX1_init 4 = .ok (.return_, 1) := by decide +kernel
theorem q6 : (Jvm.Cond.initialized "DefaultInterfaceTemporalAccessor") ∈ lw_all := lw_g (lw_at lw_m1 2 rfl) rfl
theorem q135 : (Jvm.Cond.instanceMethod ({ cls := "DefaultInterfaceTemporalAccessor", name := "<init>", desc := "()V" } : Jvm.MethodName)) ∈ lw_all := lw_g (lw_at lw_m1 131 rfl) rfl
theorem q136 : (Jvm.Cond.code ({ cls := "DefaultInterfaceTemporalAccessor", name := "<init>", desc := "()V" } : Jvm.MethodName) prog_2_method_1_code (1 : Nat) (Option.none : Option Jvm.ClassFile.FieldType)) ∈ lw_all := lw_g (lw_at lw_m1 132 rfl) rfl
theorem q137 : (Jvm.Cond.methodLink "DefaultInterfaceTemporalAccessor" (1 : Nat) ({ cls := "java/lang/Object", name := "<init>", desc := "()V" } : Jvm.MethodName)) ∈ lw_all := lw_g (lw_at lw_m1 133 rfl) rfl
/-! Instant -/
set_option maxRecDepth 100000
def RX2 : String := "Instant"
def TX2 : u_T := fun k => match k with
  | 0 => ("Instant", "seconds", "J", true)
  | _ => ("Instant", "nanos", "I", true)
def tyX2 : Nat → FieldType := fun k => match k with
  | 0 => .long
  | _ => .int
abbrev wsX20 : List Cond := u_ws RX2 TX2 2
theorem nmX2 : ∀ a, a < 2 → ∀ b, b < 2 → a ≠ b → (TX2 a).2.1 ≠ (TX2 b).2.1 := by decide +kernel
theorem tyX2_ok : ∀ k, k < 2 → parseFieldDescriptor (TX2 k).2.2.1 = some (tyX2 k) := by decide +kernel
abbrev cX2_ofEpochSecond : ByteArray := prog_3_method_1_code
def yX2_ofEpochSecond : MethodName := ⟨RX2, "ofEpochSecond", "(JJ)LInstant;"⟩
def dkwX2_ofEpochSecond_1 : List UInt8 := [21, 6, 184, 0, 19, 176]
abbrev dktX2_ofEpochSecond_1 : List UInt8 := dkwX2_ofEpochSecond_1 ++ []
def dkwX2_ofEpochSecond_0 : List UInt8 := [30, 32, 20, 0, 3, 184, 0, 5, 184, 0, 11, 55, 4, 32, 18, 14, 184, 0, 15, 54, 6, 22, 4]
abbrev dktX2_ofEpochSecond_0 : List UInt8 := dkwX2_ofEpochSecond_0 ++ dktX2_ofEpochSecond_1
theorem dksX2_ofEpochSecond_0 : cX2_ofEpochSecond.data.toList.drop 0 = dktX2_ofEpochSecond_0 := by decide +kernel
theorem dksX2_ofEpochSecond_1 : cX2_ofEpochSecond.data.toList.drop 23 = dktX2_ofEpochSecond_1 := dk_seg dksX2_ofEpochSecond_0 23 rfl rfl
theorem dX2_ofEpochSecond_0 : decode cX2_ofEpochSecond 0 = .ok (.lload_n 0, 1) := dk_30 (dk_at dksX2_ofEpochSecond_0 0 rfl rfl)
theorem dX2_ofEpochSecond_1 : decode cX2_ofEpochSecond 1 = .ok (.lload_n 2, 1) := dk_32 (dk_at dksX2_ofEpochSecond_0 1 rfl rfl)
theorem dX2_ofEpochSecond_2 : decode cX2_ofEpochSecond 2 = .ok (.ldc2_w 3, 3) := dk_20 0 3 (dk_at dksX2_ofEpochSecond_0 2 rfl rfl)
theorem dX2_ofEpochSecond_5 : decode cX2_ofEpochSecond 5 = .ok (.invokestatic 5, 3) := dk_184 0 5 (dk_at dksX2_ofEpochSecond_0 5 rfl rfl)
theorem dX2_ofEpochSecond_8 : decode cX2_ofEpochSecond 8 = .ok (.invokestatic 11, 3) := dk_184 0 11 (dk_at dksX2_ofEpochSecond_0 8 rfl rfl)
theorem dX2_ofEpochSecond_11 : decode cX2_ofEpochSecond 11 = .ok (.lstore 4, 2) := dk_55 4 (dk_at dksX2_ofEpochSecond_0 11 rfl rfl)
theorem dX2_ofEpochSecond_13 : decode cX2_ofEpochSecond 13 = .ok (.lload_n 2, 1) := dk_32 (dk_at dksX2_ofEpochSecond_0 13 rfl rfl)
theorem dX2_ofEpochSecond_14 : decode cX2_ofEpochSecond 14 = .ok (.ldc 14, 2) := dk_18 14 (dk_at dksX2_ofEpochSecond_0 14 rfl rfl)
theorem dX2_ofEpochSecond_16 : decode cX2_ofEpochSecond 16 = .ok (.invokestatic 15, 3) := dk_184 0 15 (dk_at dksX2_ofEpochSecond_0 16 rfl rfl)
theorem dX2_ofEpochSecond_19 : decode cX2_ofEpochSecond 19 = .ok (.istore 6, 2) := dk_54 6 (dk_at dksX2_ofEpochSecond_0 19 rfl rfl)
theorem dX2_ofEpochSecond_21 : decode cX2_ofEpochSecond 21 = .ok (.lload 4, 2) := dk_22 4 (dk_at dksX2_ofEpochSecond_0 21 rfl rfl)
theorem dX2_ofEpochSecond_23 : decode cX2_ofEpochSecond 23 = .ok (.iload 6, 2) := dk_21 6 (dk_at dksX2_ofEpochSecond_1 0 rfl rfl)
theorem dX2_ofEpochSecond_25 : decode cX2_ofEpochSecond 25 = .ok (.invokestatic 19, 3) := dk_184 0 19 (dk_at dksX2_ofEpochSecond_1 2 rfl rfl)
theorem dX2_ofEpochSecond_28 : decode cX2_ofEpochSecond 28 = .ok (.areturn, 1) := dk_176 (dk_at dksX2_ofEpochSecond_1 5 rfl rfl)
abbrev cX2_create : ByteArray := prog_3_method_3_code
def yX2_create : MethodName := ⟨RX2, "create", "(JI)LInstant;"⟩
def dkwX2_create_2 : List UInt8 := [183, 0, 42, 176]
abbrev dktX2_create_2 : List UInt8 := dkwX2_create_2 ++ []
def dkwX2_create_1 : List UInt8 := [20, 0, 32, 148, 158, 0, 13, 187, 0, 34, 89, 18, 36, 183, 0, 38, 191, 187, 0, 1, 89, 30, 28]
abbrev dktX2_create_1 : List UInt8 := dkwX2_create_1 ++ dktX2_create_2
def dkwX2_create_0 : List UInt8 := [30, 28, 133, 129, 9, 148, 154, 0, 7, 178, 0, 26, 176, 30, 20, 0, 30, 148, 155, 0, 11, 30]
abbrev dktX2_create_0 : List UInt8 := dkwX2_create_0 ++ dktX2_create_1
theorem dksX2_create_0 : cX2_create.data.toList.drop 0 = dktX2_create_0 := by decide +kernel
theorem dksX2_create_1 : cX2_create.data.toList.drop 22 = dktX2_create_1 := dk_seg dksX2_create_0 22 rfl rfl
theorem dksX2_create_2 : cX2_create.data.toList.drop 45 = dktX2_create_2 := dk_seg dksX2_create_1 23 rfl rfl
theorem dX2_create_0 : decode cX2_create 0 = .ok (.lload_n 0, 1) := dk_30 (dk_at dksX2_create_0 0 rfl rfl)
theorem dX2_create_1 : decode cX2_create 1 = .ok (.iload_n 2, 1) := dk_28 (dk_at dksX2_create_0 1 rfl rfl)
theorem dX2_create_2 : decode cX2_create 2 = .ok (.i2l, 1) := dk_133 (dk_at dksX2_create_0 2 rfl rfl)
theorem dX2_create_3 : decode cX2_create 3 = .ok (.lor, 1) := dk_129 (dk_at dksX2_create_0 3 rfl rfl)
theorem dX2_create_4 : decode cX2_create 4 = .ok (.lconst 0, 1) := dk_9 (dk_at dksX2_create_0 4 rfl rfl)
theorem dX2_create_5 : decode cX2_create 5 = .ok (.lcmp, 1) := dk_148 (dk_at dksX2_create_0 5 rfl rfl)
theorem dX2_create_6 : decode cX2_create 6 = .ok (.ifCond .ne 7, 3) := dk_154 0 7 (dk_at dksX2_create_0 6 rfl rfl)
theorem dX2_create_9 : decode cX2_create 9 = .ok (.getstatic 26, 3) := dk_178 0 26 (dk_at dksX2_create_0 9 rfl rfl)
theorem dX2_create_12 : decode cX2_create 12 = .ok (.areturn, 1) := dk_176 (dk_at dksX2_create_0 12 rfl rfl)
theorem dX2_create_13 : decode cX2_create 13 = .ok (.lload_n 0, 1) := dk_30 (dk_at dksX2_create_0 13 rfl rfl)
theorem dX2_create_14 : decode cX2_create 14 = .ok (.ldc2_w 30, 3) := dk_20 0 30 (dk_at dksX2_create_0 14 rfl rfl)
theorem dX2_create_17 : decode cX2_create 17 = .ok (.lcmp, 1) := dk_148 (dk_at dksX2_create_0 17 rfl rfl)
theorem dX2_create_18 : decode cX2_create 18 = .ok (.ifCond .lt 11, 3) := dk_155 0 11 (dk_at dksX2_create_0 18 rfl rfl)
theorem dX2_create_21 : decode cX2_create 21 = .ok (.lload_n 0, 1) := dk_30 (dk_at dksX2_create_0 21 rfl rfl)
theorem dX2_create_22 : decode cX2_create 22 = .ok (.ldc2_w 32, 3) := dk_20 0 32 (dk_at dksX2_create_1 0 rfl rfl)
theorem dX2_create_25 : decode cX2_create 25 = .ok (.lcmp, 1) := dk_148 (dk_at dksX2_create_1 3 rfl rfl)
theorem dX2_create_26 : decode cX2_create 26 = .ok (.ifCond .le 13, 3) := dk_158 0 13 (dk_at dksX2_create_1 4 rfl rfl)
theorem dX2_create_29 : decode cX2_create 29 = .ok (.new 34, 3) := dk_187 0 34 (dk_at dksX2_create_1 7 rfl rfl)
theorem dX2_create_32 : decode cX2_create 32 = .ok (.dup, 1) := dk_89 (dk_at dksX2_create_1 10 rfl rfl)
theorem dX2_create_33 : decode cX2_create 33 = .ok (.ldc 36, 2) := dk_18 36 (dk_at dksX2_create_1 11 rfl rfl)
theorem dX2_create_35 : decode cX2_create 35 = .ok (.invokespecial 38, 3) := dk_183 0 38 (dk_at dksX2_create_1 13 rfl rfl)
theorem dX2_create_38 : decode cX2_create 38 = .ok (.athrow, 1) := dk_191 (dk_at dksX2_create_1 16 rfl rfl)
theorem dX2_create_39 : decode cX2_create 39 = .ok (.new 1, 3) := dk_187 0 1 (dk_at dksX2_create_1 17 rfl rfl)
theorem dX2_create_42 : decode cX2_create 42 = .ok (.dup, 1) := dk_89 (dk_at dksX2_create_1 20 rfl rfl)
theorem dX2_create_43 : decode cX2_create 43 = .ok (.lload_n 0, 1) := dk_30 (dk_at dksX2_create_1 21 rfl rfl)
theorem dX2_create_44 : decode cX2_create 44 = .ok (.iload_n 2, 1) := dk_28 (dk_at dksX2_create_1 22 rfl rfl)
theorem dX2_create_45 : decode cX2_create 45 = .ok (.invokespecial 42, 3) := dk_183 0 42 (dk_at dksX2_create_2 0 rfl rfl)
theorem dX2_create_48 : decode cX2_create 48 = .ok (.areturn, 1) := dk_176 (dk_at dksX2_create_2 3 rfl rfl)
abbrev cX2_init : ByteArray := prog_3_method_4_code
def yX2_init : MethodName := ⟨RX2, "<init>", "(JI)V"⟩
def dkwX2_init_0 : List UInt8 := [42, 183, 0, 45, 42, 31, 181, 0, 50, 42, 29, 181, 0, 54, 177]
abbrev dktX2_init_0 : List UInt8 := dkwX2_init_0 ++ []
theorem dksX2_init_0 : cX2_init.data.toList.drop 0 = dktX2_init_0 := by decide +kernel
theorem dX2_init_0 : decode cX2_init 0 = .ok (.aload_n 0, 1) := dk_42 (dk_at dksX2_init_0 0 rfl rfl)
theorem dX2_init_1 : decode cX2_init 1 = .ok (.invokespecial 45, 3) := dk_183 0 45 (dk_at dksX2_init_0 1 rfl rfl)
theorem dX2_init_4 : decode cX2_init 4 = .ok (.aload_n 0, 1) := dk_42 (dk_at dksX2_init_0 4 rfl rfl)
theorem dX2_init_5 : decode cX2_init 5 = .ok (.lload_n 1, 1) := dk_31 (dk_at dksX2_init_0 5 rfl rfl)
theorem dX2_init_6 : decode cX2_init 6 = .ok (.putfield 50, 3) := dk_181 0 50 (dk_at dksX2_init_0 6 rfl rfl)
theorem dX2_init_9 : decode cX2_init 9 = .ok (.aload_n 0, 1) := dk_42 (dk_at dksX2_init_0 9 rfl rfl)
theorem dX2_init_10 : decode cX2_init 10 = .ok (.iload_n 3, 1) := dk_29 (dk_at dksX2_init_0 10 rfl rfl)
theorem dX2_init_11 : decode cX2_init 11 = .ok (.putfield 54, 3) := dk_181 0 54 (dk_at dksX2_init_0 11 rfl rfl)
theorem dX2_init_14 : decode cX2_init 14 = .ok (.return_, 1) := dk_177 (dk_at dksX2_init_0 14 rfl rfl)
abbrev cX2_getEpochSecond : ByteArray := prog_3_method_5_code
def yX2_getEpochSecond : MethodName := ⟨RX2, "getEpochSecond", "()J"⟩
theorem dX2_getEpochSecond_0 : decode cX2_getEpochSecond 0 = .ok (.aload_n 0, 1) := by decide +kernel
theorem dX2_getEpochSecond_1 : decode cX2_getEpochSecond 1 = .ok (.getfield 50, 3) := by decide +kernel
theorem dX2_getEpochSecond_4 : decode cX2_getEpochSecond 4 = .ok (.lreturn, 1) := by decide +kernel
abbrev cX2_plusSeconds : ByteArray := prog_3_method_7_code
def yX2_plusSeconds : MethodName := ⟨RX2, "plusSeconds", "(J)LInstant;"⟩
def dkwX2_plusSeconds_0 : List UInt8 := [42, 31, 9, 182, 0, 58, 176]
abbrev dktX2_plusSeconds_0 : List UInt8 := dkwX2_plusSeconds_0 ++ []
theorem dksX2_plusSeconds_0 : cX2_plusSeconds.data.toList.drop 0 = dktX2_plusSeconds_0 := by decide +kernel
theorem dX2_plusSeconds_0 : decode cX2_plusSeconds 0 = .ok (.aload_n 0, 1) := dk_42 (dk_at dksX2_plusSeconds_0 0 rfl rfl)
theorem dX2_plusSeconds_1 : decode cX2_plusSeconds 1 = .ok (.lload_n 1, 1) := dk_31 (dk_at dksX2_plusSeconds_0 1 rfl rfl)
theorem dX2_plusSeconds_2 : decode cX2_plusSeconds 2 = .ok (.lconst 0, 1) := dk_9 (dk_at dksX2_plusSeconds_0 2 rfl rfl)
theorem dX2_plusSeconds_3 : decode cX2_plusSeconds 3 = .ok (.invokevirtual 58, 3) := dk_182 0 58 (dk_at dksX2_plusSeconds_0 3 rfl rfl)
theorem dX2_plusSeconds_6 : decode cX2_plusSeconds 6 = .ok (.areturn, 1) := dk_176 (dk_at dksX2_plusSeconds_0 6 rfl rfl)
abbrev cX2_plus : ByteArray := prog_3_method_10_code
def yX2_plus : MethodName := ⟨RX2, "plus", "(JJ)LInstant;"⟩
def dkwX2_plus_2 : List UInt8 := [22, 5, 22, 7, 184, 0, 64, 176]
abbrev dktX2_plus_2 : List UInt8 := dkwX2_plus_2 ++ []
def dkwX2_plus_1 : List UInt8 := [20, 0, 3, 109, 184, 0, 11, 55, 5, 33, 20, 0, 3, 113, 66, 42, 180, 0, 54, 133, 33, 97, 55, 7]
abbrev dktX2_plus_1 : List UInt8 := dkwX2_plus_1 ++ dktX2_plus_2
def dkwX2_plus_0 : List UInt8 := [31, 33, 129, 9, 148, 154, 0, 5, 42, 176, 42, 180, 0, 50, 31, 184, 0, 11, 55, 5, 22, 5, 33]
abbrev dktX2_plus_0 : List UInt8 := dkwX2_plus_0 ++ dktX2_plus_1
theorem dksX2_plus_0 : cX2_plus.data.toList.drop 0 = dktX2_plus_0 := by decide +kernel
theorem dksX2_plus_1 : cX2_plus.data.toList.drop 23 = dktX2_plus_1 := dk_seg dksX2_plus_0 23 rfl rfl
theorem dksX2_plus_2 : cX2_plus.data.toList.drop 47 = dktX2_plus_2 := dk_seg dksX2_plus_1 24 rfl rfl
theorem dX2_plus_0 : decode cX2_plus 0 = .ok (.lload_n 1, 1) := dk_31 (dk_at dksX2_plus_0 0 rfl rfl)
theorem dX2_plus_1 : decode cX2_plus 1 = .ok (.lload_n 3, 1) := dk_33 (dk_at dksX2_plus_0 1 rfl rfl)
theorem dX2_plus_2 : decode cX2_plus 2 = .ok (.lor, 1) := dk_129 (dk_at dksX2_plus_0 2 rfl rfl)
theorem dX2_plus_3 : decode cX2_plus 3 = .ok (.lconst 0, 1) := dk_9 (dk_at dksX2_plus_0 3 rfl rfl)
theorem dX2_plus_4 : decode cX2_plus 4 = .ok (.lcmp, 1) := dk_148 (dk_at dksX2_plus_0 4 rfl rfl)
theorem dX2_plus_5 : decode cX2_plus 5 = .ok (.ifCond .ne 5, 3) := dk_154 0 5 (dk_at dksX2_plus_0 5 rfl rfl)
theorem dX2_plus_8 : decode cX2_plus 8 = .ok (.aload_n 0, 1) := dk_42 (dk_at dksX2_plus_0 8 rfl rfl)
theorem dX2_plus_9 : decode cX2_plus 9 = .ok (.areturn, 1) := dk_176 (dk_at dksX2_plus_0 9 rfl rfl)
theorem dX2_plus_10 : decode cX2_plus 10 = .ok (.aload_n 0, 1) := dk_42 (dk_at dksX2_plus_0 10 rfl rfl)
theorem dX2_plus_11 : decode cX2_plus 11 = .ok (.getfield 50, 3) := dk_180 0 50 (dk_at dksX2_plus_0 11 rfl rfl)
theorem dX2_plus_14 : decode cX2_plus 14 = .ok (.lload_n 1, 1) := dk_31 (dk_at dksX2_plus_0 14 rfl rfl)
theorem dX2_plus_15 : decode cX2_plus 15 = .ok (.invokestatic 11, 3) := dk_184 0 11 (dk_at dksX2_plus_0 15 rfl rfl)
theorem dX2_plus_18 : decode cX2_plus 18 = .ok (.lstore 5, 2) := dk_55 5 (dk_at dksX2_plus_0 18 rfl rfl)
theorem dX2_plus_20 : decode cX2_plus 20 = .ok (.lload 5, 2) := dk_22 5 (dk_at dksX2_plus_0 20 rfl rfl)
theorem dX2_plus_22 : decode cX2_plus 22 = .ok (.lload_n 3, 1) := dk_33 (dk_at dksX2_plus_0 22 rfl rfl)
theorem dX2_plus_23 : decode cX2_plus 23 = .ok (.ldc2_w 3, 3) := dk_20 0 3 (dk_at dksX2_plus_1 0 rfl rfl)
theorem dX2_plus_26 : decode cX2_plus 26 = .ok (.ldiv, 1) := dk_109 (dk_at dksX2_plus_1 3 rfl rfl)
theorem dX2_plus_27 : decode cX2_plus 27 = .ok (.invokestatic 11, 3) := dk_184 0 11 (dk_at dksX2_plus_1 4 rfl rfl)
theorem dX2_plus_30 : decode cX2_plus 30 = .ok (.lstore 5, 2) := dk_55 5 (dk_at dksX2_plus_1 7 rfl rfl)
theorem dX2_plus_32 : decode cX2_plus 32 = .ok (.lload_n 3, 1) := dk_33 (dk_at dksX2_plus_1 9 rfl rfl)
theorem dX2_plus_33 : decode cX2_plus 33 = .ok (.ldc2_w 3, 3) := dk_20 0 3 (dk_at dksX2_plus_1 10 rfl rfl)
theorem dX2_plus_36 : decode cX2_plus 36 = .ok (.lrem, 1) := dk_113 (dk_at dksX2_plus_1 13 rfl rfl)
theorem dX2_plus_37 : decode cX2_plus 37 = .ok (.lstore_n 3, 1) := dk_66 (dk_at dksX2_plus_1 14 rfl rfl)
theorem dX2_plus_38 : decode cX2_plus 38 = .ok (.aload_n 0, 1) := dk_42 (dk_at dksX2_plus_1 15 rfl rfl)
theorem dX2_plus_39 : decode cX2_plus 39 = .ok (.getfield 54, 3) := dk_180 0 54 (dk_at dksX2_plus_1 16 rfl rfl)
theorem dX2_plus_42 : decode cX2_plus 42 = .ok (.i2l, 1) := dk_133 (dk_at dksX2_plus_1 19 rfl rfl)
theorem dX2_plus_43 : decode cX2_plus 43 = .ok (.lload_n 3, 1) := dk_33 (dk_at dksX2_plus_1 20 rfl rfl)
theorem dX2_plus_44 : decode cX2_plus 44 = .ok (.ladd, 1) := dk_97 (dk_at dksX2_plus_1 21 rfl rfl)
theorem dX2_plus_45 : decode cX2_plus 45 = .ok (.lstore 7, 2) := dk_55 7 (dk_at dksX2_plus_1 22 rfl rfl)
theorem dX2_plus_47 : decode cX2_plus 47 = .ok (.lload 5, 2) := dk_22 5 (dk_at dksX2_plus_2 0 rfl rfl)
theorem dX2_plus_49 : decode cX2_plus 49 = .ok (.lload 7, 2) := dk_22 7 (dk_at dksX2_plus_2 2 rfl rfl)
theorem dX2_plus_51 : decode cX2_plus 51 = .ok (.invokestatic 64, 3) := dk_184 0 64 (dk_at dksX2_plus_2 4 rfl rfl)
theorem dX2_plus_54 : decode cX2_plus 54 = .ok (.areturn, 1) := dk_176 (dk_at dksX2_plus_2 7 rfl rfl)
abbrev cX2_plusMillis : ByteArray := prog_3_method_8_code
def yX2_plusMillis : MethodName := ⟨RX2, "plusMillis", "(J)LInstant;"⟩
def dkwX2_plusMillis_0 : List UInt8 := [42, 31, 20, 0, 23, 109, 31, 20, 0, 23, 113, 20, 0, 62, 105, 182, 0, 58, 176]
abbrev dktX2_plusMillis_0 : List UInt8 := dkwX2_plusMillis_0 ++ []
theorem dksX2_plusMillis_0 : cX2_plusMillis.data.toList.drop 0 = dktX2_plusMillis_0 := by decide +kernel
theorem dX2_plusMillis_0 : decode cX2_plusMillis 0 = .ok (.aload_n 0, 1) := dk_42 (dk_at dksX2_plusMillis_0 0 rfl rfl)
theorem dX2_plusMillis_1 : decode cX2_plusMillis 1 = .ok (.lload_n 1, 1) := dk_31 (dk_at dksX2_plusMillis_0 1 rfl rfl)
theorem dX2_plusMillis_2 : decode cX2_plusMillis 2 = .ok (.ldc2_w 23, 3) := dk_20 0 23 (dk_at dksX2_plusMillis_0 2 rfl rfl)
theorem dX2_plusMillis_5 : decode cX2_plusMillis 5 = .ok (.ldiv, 1) := dk_109 (dk_at dksX2_plusMillis_0 5 rfl rfl)
theorem dX2_plusMillis_6 : decode cX2_plusMillis 6 = .ok (.lload_n 1, 1) := dk_31 (dk_at dksX2_plusMillis_0 6 rfl rfl)
theorem dX2_plusMillis_7 : decode cX2_plusMillis 7 = .ok (.ldc2_w 23, 3) := dk_20 0 23 (dk_at dksX2_plusMillis_0 7 rfl rfl)
theorem dX2_plusMillis_10 : decode cX2_plusMillis 10 = .ok (.lrem, 1) := dk_113 (dk_at dksX2_plusMillis_0 10 rfl rfl)
theorem dX2_plusMillis_11 : decode cX2_plusMillis 11 = .ok (.ldc2_w 62, 3) := dk_20 0 62 (dk_at dksX2_plusMillis_0 11 rfl rfl)
theorem dX2_plusMillis_14 : decode cX2_plusMillis 14 = .ok (.lmul, 1) := dk_105 (dk_at dksX2_plusMillis_0 14 rfl rfl)
theorem dX2_plusMillis_15 : decode cX2_plusMillis 15 = .ok (.invokevirtual 58, 3) := dk_182 0 58 (dk_at dksX2_plusMillis_0 15 rfl rfl)
theorem dX2_plusMillis_18 : decode cX2_plusMillis 18 = .ok (.areturn, 1) := dk_176 (dk_at dksX2_plusMillis_0 18 rfl rfl)
abbrev cX2_plusNanos : ByteArray := prog_3_method_9_code
def yX2_plusNanos : MethodName := ⟨RX2, "plusNanos", "(J)LInstant;"⟩
def dkwX2_plusNanos_0 : List UInt8 := [42, 9, 31, 182, 0, 58, 176]
abbrev dktX2_plusNanos_0 : List UInt8 := dkwX2_plusNanos_0 ++ []
theorem dksX2_plusNanos_0 : cX2_plusNanos.data.toList.drop 0 = dktX2_plusNanos_0 := by decide +kernel
theorem dX2_plusNanos_0 : decode cX2_plusNanos 0 = .ok (.aload_n 0, 1) := dk_42 (dk_at dksX2_plusNanos_0 0 rfl rfl)
theorem dX2_plusNanos_1 : decode cX2_plusNanos 1 = .ok (.lconst 0, 1) := dk_9 (dk_at dksX2_plusNanos_0 1 rfl rfl)
theorem dX2_plusNanos_2 : decode cX2_plusNanos 2 = .ok (.lload_n 1, 1) := dk_31 (dk_at dksX2_plusNanos_0 2 rfl rfl)
theorem dX2_plusNanos_3 : decode cX2_plusNanos 3 = .ok (.invokevirtual 58, 3) := dk_182 0 58 (dk_at dksX2_plusNanos_0 3 rfl rfl)
theorem dX2_plusNanos_6 : decode cX2_plusNanos 6 = .ok (.areturn, 1) := dk_176 (dk_at dksX2_plusNanos_0 6 rfl rfl)
abbrev cX2_ofEpochMilli : ByteArray := prog_3_method_2_code
def yX2_ofEpochMilli : MethodName := ⟨RX2, "ofEpochMilli", "(J)LInstant;"⟩
def dkwX2_ofEpochMilli_1 : List UInt8 := [184, 0, 19, 176]
abbrev dktX2_ofEpochMilli_1 : List UInt8 := dkwX2_ofEpochMilli_1 ++ []
def dkwX2_ofEpochMilli_0 : List UInt8 := [30, 20, 0, 23, 184, 0, 5, 65, 30, 17, 3, 232, 184, 0, 15, 54, 4, 32, 21, 4, 18, 25, 104]
abbrev dktX2_ofEpochMilli_0 : List UInt8 := dkwX2_ofEpochMilli_0 ++ dktX2_ofEpochMilli_1
theorem dksX2_ofEpochMilli_0 : cX2_ofEpochMilli.data.toList.drop 0 = dktX2_ofEpochMilli_0 := by decide +kernel
theorem dksX2_ofEpochMilli_1 : cX2_ofEpochMilli.data.toList.drop 23 = dktX2_ofEpochMilli_1 := dk_seg dksX2_ofEpochMilli_0 23 rfl rfl
theorem dX2_ofEpochMilli_0 : decode cX2_ofEpochMilli 0 = .ok (.lload_n 0, 1) := dk_30 (dk_at dksX2_ofEpochMilli_0 0 rfl rfl)
theorem dX2_ofEpochMilli_1 : decode cX2_ofEpochMilli 1 = .ok (.ldc2_w 23, 3) := dk_20 0 23 (dk_at dksX2_ofEpochMilli_0 1 rfl rfl)
theorem dX2_ofEpochMilli_4 : decode cX2_ofEpochMilli 4 = .ok (.invokestatic 5, 3) := dk_184 0 5 (dk_at dksX2_ofEpochMilli_0 4 rfl rfl)
theorem dX2_ofEpochMilli_7 : decode cX2_ofEpochMilli 7 = .ok (.lstore_n 2, 1) := dk_65 (dk_at dksX2_ofEpochMilli_0 7 rfl rfl)
theorem dX2_ofEpochMilli_8 : decode cX2_ofEpochMilli 8 = .ok (.lload_n 0, 1) := dk_30 (dk_at dksX2_ofEpochMilli_0 8 rfl rfl)
theorem dX2_ofEpochMilli_9 : decode cX2_ofEpochMilli 9 = .ok (.sipush 1000, 3) := dk_17 3 232 (dk_at dksX2_ofEpochMilli_0 9 rfl rfl)
theorem dX2_ofEpochMilli_12 : decode cX2_ofEpochMilli 12 = .ok (.invokestatic 15, 3) := dk_184 0 15 (dk_at dksX2_ofEpochMilli_0 12 rfl rfl)
theorem dX2_ofEpochMilli_15 : decode cX2_ofEpochMilli 15 = .ok (.istore 4, 2) := dk_54 4 (dk_at dksX2_ofEpochMilli_0 15 rfl rfl)
theorem dX2_ofEpochMilli_17 : decode cX2_ofEpochMilli 17 = .ok (.lload_n 2, 1) := dk_32 (dk_at dksX2_ofEpochMilli_0 17 rfl rfl)
theorem dX2_ofEpochMilli_18 : decode cX2_ofEpochMilli 18 = .ok (.iload 4, 2) := dk_21 4 (dk_at dksX2_ofEpochMilli_0 18 rfl rfl)
theorem dX2_ofEpochMilli_20 : decode cX2_ofEpochMilli 20 = .ok (.ldc 25, 2) := dk_18 25 (dk_at dksX2_ofEpochMilli_0 20 rfl rfl)
theorem dX2_ofEpochMilli_22 : decode cX2_ofEpochMilli 22 = .ok (.imul, 1) := dk_104 (dk_at dksX2_ofEpochMilli_0 22 rfl rfl)
theorem dX2_ofEpochMilli_23 : decode cX2_ofEpochMilli 23 = .ok (.invokestatic 19, 3) := dk_184 0 19 (dk_at dksX2_ofEpochMilli_1 0 rfl rfl)
theorem dX2_ofEpochMilli_26 : decode cX2_ofEpochMilli 26 = .ok (.areturn, 1) := dk_176 (dk_at dksX2_ofEpochMilli_1 3 rfl rfl)
abbrev cX2_getNano : ByteArray := prog_3_method_6_code
def yX2_getNano : MethodName := ⟨RX2, "getNano", "()I"⟩
theorem dX2_getNano_0 : decode cX2_getNano 0 = .ok (.aload_n 0, 1) := by decide +kernel
theorem dX2_getNano_1 : decode cX2_getNano 1 = .ok (.getfield 54, 3) := by decide +kernel
theorem dX2_getNano_4 : decode cX2_getNano 4 = .ok (.ireturn, 1) := by decide +kernel
abbrev cX2_isBefore : ByteArray := prog_3_method_14_code
def yX2_isBefore : MethodName := ⟨RX2, "isBefore", "(LInstant;)Z"⟩
def dkwX2_isBefore_0 : List UInt8 := [42, 43, 182, 0, 77, 156, 0, 7, 4, 167, 0, 4, 3, 172]
abbrev dktX2_isBefore_0 : List UInt8 := dkwX2_isBefore_0 ++ []
theorem dksX2_isBefore_0 : cX2_isBefore.data.toList.drop 0 = dktX2_isBefore_0 := by decide +kernel
theorem dX2_isBefore_0 : decode cX2_isBefore 0 = .ok (.aload_n 0, 1) := dk_42 (dk_at dksX2_isBefore_0 0 rfl rfl)
theorem dX2_isBefore_1 : decode cX2_isBefore 1 = .ok (.aload_n 1, 1) := dk_43 (dk_at dksX2_isBefore_0 1 rfl rfl)
theorem dX2_isBefore_2 : decode cX2_isBefore 2 = .ok (.invokevirtual 77, 3) := dk_182 0 77 (dk_at dksX2_isBefore_0 2 rfl rfl)
theorem dX2_isBefore_5 : decode cX2_isBefore 5 = .ok (.ifCond .ge 7, 3) := dk_156 0 7 (dk_at dksX2_isBefore_0 5 rfl rfl)
theorem dX2_isBefore_8 : decode cX2_isBefore 8 = .ok (.iconst 1, 1) := dk_4 (dk_at dksX2_isBefore_0 8 rfl rfl)
theorem dX2_isBefore_9 : decode cX2_isBefore 9 = .ok (.goto 4, 3) := dk_167 0 4 (dk_at dksX2_isBefore_0 9 rfl rfl)
theorem dX2_isBefore_12 : decode cX2_isBefore 12 = .ok (.iconst 0, 1) := dk_3 (dk_at dksX2_isBefore_0 12 rfl rfl)
theorem dX2_isBefore_13 : decode cX2_isBefore 13 = .ok (.ireturn, 1) := dk_172 (dk_at dksX2_isBefore_0 13 rfl rfl)
abbrev cX2_compareTo : ByteArray := prog_3_method_12_code
def yX2_compareTo : MethodName := ⟨RX2, "compareTo", "(LInstant;)I"⟩
def dkwX2_compareTo_1 : List UInt8 := [180, 0, 54, 100, 172]
abbrev dktX2_compareTo_1 : List UInt8 := dkwX2_compareTo_1 ++ []
def dkwX2_compareTo_0 : List UInt8 := [42, 180, 0, 50, 43, 180, 0, 50, 184, 0, 73, 61, 28, 153, 0, 5, 28, 172, 42, 180, 0, 54, 43]
abbrev dktX2_compareTo_0 : List UInt8 := dkwX2_compareTo_0 ++ dktX2_compareTo_1
theorem dksX2_compareTo_0 : cX2_compareTo.data.toList.drop 0 = dktX2_compareTo_0 := by decide +kernel
theorem dksX2_compareTo_1 : cX2_compareTo.data.toList.drop 23 = dktX2_compareTo_1 := dk_seg dksX2_compareTo_0 23 rfl rfl
theorem dX2_compareTo_0 : decode cX2_compareTo 0 = .ok (.aload_n 0, 1) := dk_42 (dk_at dksX2_compareTo_0 0 rfl rfl)
theorem dX2_compareTo_1 : decode cX2_compareTo 1 = .ok (.getfield 50, 3) := dk_180 0 50 (dk_at dksX2_compareTo_0 1 rfl rfl)
theorem dX2_compareTo_4 : decode cX2_compareTo 4 = .ok (.aload_n 1, 1) := dk_43 (dk_at dksX2_compareTo_0 4 rfl rfl)
theorem dX2_compareTo_5 : decode cX2_compareTo 5 = .ok (.getfield 50, 3) := dk_180 0 50 (dk_at dksX2_compareTo_0 5 rfl rfl)
theorem dX2_compareTo_8 : decode cX2_compareTo 8 = .ok (.invokestatic 73, 3) := dk_184 0 73 (dk_at dksX2_compareTo_0 8 rfl rfl)
theorem dX2_compareTo_11 : decode cX2_compareTo 11 = .ok (.istore_n 2, 1) := dk_61 (dk_at dksX2_compareTo_0 11 rfl rfl)
theorem dX2_compareTo_12 : decode cX2_compareTo 12 = .ok (.iload_n 2, 1) := dk_28 (dk_at dksX2_compareTo_0 12 rfl rfl)
theorem dX2_compareTo_13 : decode cX2_compareTo 13 = .ok (.ifCond .eq 5, 3) := dk_153 0 5 (dk_at dksX2_compareTo_0 13 rfl rfl)
theorem dX2_compareTo_16 : decode cX2_compareTo 16 = .ok (.iload_n 2, 1) := dk_28 (dk_at dksX2_compareTo_0 16 rfl rfl)
theorem dX2_compareTo_17 : decode cX2_compareTo 17 = .ok (.ireturn, 1) := dk_172 (dk_at dksX2_compareTo_0 17 rfl rfl)
theorem dX2_compareTo_18 : decode cX2_compareTo 18 = .ok (.aload_n 0, 1) := dk_42 (dk_at dksX2_compareTo_0 18 rfl rfl)
theorem dX2_compareTo_19 : decode cX2_compareTo 19 = .ok (.getfield 54, 3) := dk_180 0 54 (dk_at dksX2_compareTo_0 19 rfl rfl)
theorem dX2_compareTo_22 : decode cX2_compareTo 22 = .ok (.aload_n 1, 1) := dk_43 (dk_at dksX2_compareTo_0 22 rfl rfl)
theorem dX2_compareTo_23 : decode cX2_compareTo 23 = .ok (.getfield 54, 3) := dk_180 0 54 (dk_at dksX2_compareTo_1 0 rfl rfl)
theorem dX2_compareTo_26 : decode cX2_compareTo 26 = .ok (.isub, 1) := dk_100 (dk_at dksX2_compareTo_1 3 rfl rfl)
theorem dX2_compareTo_27 : decode cX2_compareTo 27 = .ok (.ireturn, 1) := dk_172 (dk_at dksX2_compareTo_1 4 rfl rfl)
abbrev cX2_isAfter : ByteArray := prog_3_method_13_code
def yX2_isAfter : MethodName := ⟨RX2, "isAfter", "(LInstant;)Z"⟩
def dkwX2_isAfter_0 : List UInt8 := [42, 43, 182, 0, 77, 158, 0, 7, 4, 167, 0, 4, 3, 172]
abbrev dktX2_isAfter_0 : List UInt8 := dkwX2_isAfter_0 ++ []
theorem dksX2_isAfter_0 : cX2_isAfter.data.toList.drop 0 = dktX2_isAfter_0 := by decide +kernel
theorem dX2_isAfter_0 : decode cX2_isAfter 0 = .ok (.aload_n 0, 1) := dk_42 (dk_at dksX2_isAfter_0 0 rfl rfl)
theorem dX2_isAfter_1 : decode cX2_isAfter 1 = .ok (.aload_n 1, 1) := dk_43 (dk_at dksX2_isAfter_0 1 rfl rfl)
theorem dX2_isAfter_2 : decode cX2_isAfter 2 = .ok (.invokevirtual 77, 3) := dk_182 0 77 (dk_at dksX2_isAfter_0 2 rfl rfl)
theorem dX2_isAfter_5 : decode cX2_isAfter 5 = .ok (.ifCond .le 7, 3) := dk_158 0 7 (dk_at dksX2_isAfter_0 5 rfl rfl)
theorem dX2_isAfter_8 : decode cX2_isAfter 8 = .ok (.iconst 1, 1) := dk_4 (dk_at dksX2_isAfter_0 8 rfl rfl)
theorem dX2_isAfter_9 : decode cX2_isAfter 9 = .ok (.goto 4, 3) := dk_167 0 4 (dk_at dksX2_isAfter_0 9 rfl rfl)
theorem dX2_isAfter_12 : decode cX2_isAfter 12 = .ok (.iconst 0, 1) := dk_3 (dk_at dksX2_isAfter_0 12 rfl rfl)
theorem dX2_isAfter_13 : decode cX2_isAfter 13 = .ok (.ireturn, 1) := dk_172 (dk_at dksX2_isAfter_0 13 rfl rfl)
abbrev cX2_toEpochMilli : ByteArray := prog_3_method_11_code
def yX2_toEpochMilli : MethodName := ⟨RX2, "toEpochMilli", "()J"⟩
def dkwX2_toEpochMilli_2 : List UInt8 := [31, 20, 0, 23, 42, 180, 0, 54, 18, 25, 108, 133, 101, 184, 0, 70, 173]
abbrev dktX2_toEpochMilli_2 : List UInt8 := dkwX2_toEpochMilli_2 ++ []
def dkwX2_toEpochMilli_1 : List UInt8 := [180, 0, 54, 18, 25, 108, 133, 184, 0, 11, 173, 42, 180, 0, 50, 10, 97, 20, 0, 23, 184, 0, 67, 64]
abbrev dktX2_toEpochMilli_1 : List UInt8 := dkwX2_toEpochMilli_1 ++ dktX2_toEpochMilli_2
def dkwX2_toEpochMilli_0 : List UInt8 := [42, 180, 0, 50, 9, 148, 155, 0, 27, 42, 180, 0, 50, 20, 0, 23, 184, 0, 67, 64, 31, 42]
abbrev dktX2_toEpochMilli_0 : List UInt8 := dkwX2_toEpochMilli_0 ++ dktX2_toEpochMilli_1
theorem dksX2_toEpochMilli_0 : cX2_toEpochMilli.data.toList.drop 0 = dktX2_toEpochMilli_0 := by decide +kernel
theorem dksX2_toEpochMilli_1 : cX2_toEpochMilli.data.toList.drop 22 = dktX2_toEpochMilli_1 := dk_seg dksX2_toEpochMilli_0 22 rfl rfl
theorem dksX2_toEpochMilli_2 : cX2_toEpochMilli.data.toList.drop 46 = dktX2_toEpochMilli_2 := dk_seg dksX2_toEpochMilli_1 24 rfl rfl
theorem dX2_toEpochMilli_0 : decode cX2_toEpochMilli 0 = .ok (.aload_n 0, 1) := dk_42 (dk_at dksX2_toEpochMilli_0 0 rfl rfl)
theorem dX2_toEpochMilli_1 : decode cX2_toEpochMilli 1 = .ok (.getfield 50, 3) := dk_180 0 50 (dk_at dksX2_toEpochMilli_0 1 rfl rfl)
theorem dX2_toEpochMilli_4 : decode cX2_toEpochMilli 4 = .ok (.lconst 0, 1) := dk_9 (dk_at dksX2_toEpochMilli_0 4 rfl rfl)
theorem dX2_toEpochMilli_5 : decode cX2_toEpochMilli 5 = .ok (.lcmp, 1) := dk_148 (dk_at dksX2_toEpochMilli_0 5 rfl rfl)
theorem dX2_toEpochMilli_6 : decode cX2_toEpochMilli 6 = .ok (.ifCond .lt 27, 3) := dk_155 0 27 (dk_at dksX2_toEpochMilli_0 6 rfl rfl)
theorem dX2_toEpochMilli_9 : decode cX2_toEpochMilli 9 = .ok (.aload_n 0, 1) := dk_42 (dk_at dksX2_toEpochMilli_0 9 rfl rfl)
theorem dX2_toEpochMilli_10 : decode cX2_toEpochMilli 10 = .ok (.getfield 50, 3) := dk_180 0 50 (dk_at dksX2_toEpochMilli_0 10 rfl rfl)
theorem dX2_toEpochMilli_13 : decode cX2_toEpochMilli 13 = .ok (.ldc2_w 23, 3) := dk_20 0 23 (dk_at dksX2_toEpochMilli_0 13 rfl rfl)
theorem dX2_toEpochMilli_16 : decode cX2_toEpochMilli 16 = .ok (.invokestatic 67, 3) := dk_184 0 67 (dk_at dksX2_toEpochMilli_0 16 rfl rfl)
theorem dX2_toEpochMilli_19 : decode cX2_toEpochMilli 19 = .ok (.lstore_n 1, 1) := dk_64 (dk_at dksX2_toEpochMilli_0 19 rfl rfl)
theorem dX2_toEpochMilli_20 : decode cX2_toEpochMilli 20 = .ok (.lload_n 1, 1) := dk_31 (dk_at dksX2_toEpochMilli_0 20 rfl rfl)
theorem dX2_toEpochMilli_21 : decode cX2_toEpochMilli 21 = .ok (.aload_n 0, 1) := dk_42 (dk_at dksX2_toEpochMilli_0 21 rfl rfl)
theorem dX2_toEpochMilli_22 : decode cX2_toEpochMilli 22 = .ok (.getfield 54, 3) := dk_180 0 54 (dk_at dksX2_toEpochMilli_1 0 rfl rfl)
theorem dX2_toEpochMilli_25 : decode cX2_toEpochMilli 25 = .ok (.ldc 25, 2) := dk_18 25 (dk_at dksX2_toEpochMilli_1 3 rfl rfl)
theorem dX2_toEpochMilli_27 : decode cX2_toEpochMilli 27 = .ok (.idiv, 1) := dk_108 (dk_at dksX2_toEpochMilli_1 5 rfl rfl)
theorem dX2_toEpochMilli_28 : decode cX2_toEpochMilli 28 = .ok (.i2l, 1) := dk_133 (dk_at dksX2_toEpochMilli_1 6 rfl rfl)
theorem dX2_toEpochMilli_29 : decode cX2_toEpochMilli 29 = .ok (.invokestatic 11, 3) := dk_184 0 11 (dk_at dksX2_toEpochMilli_1 7 rfl rfl)
theorem dX2_toEpochMilli_32 : decode cX2_toEpochMilli 32 = .ok (.lreturn, 1) := dk_173 (dk_at dksX2_toEpochMilli_1 10 rfl rfl)
theorem dX2_toEpochMilli_33 : decode cX2_toEpochMilli 33 = .ok (.aload_n 0, 1) := dk_42 (dk_at dksX2_toEpochMilli_1 11 rfl rfl)
theorem dX2_toEpochMilli_34 : decode cX2_toEpochMilli 34 = .ok (.getfield 50, 3) := dk_180 0 50 (dk_at dksX2_toEpochMilli_1 12 rfl rfl)
theorem dX2_toEpochMilli_37 : decode cX2_toEpochMilli 37 = .ok (.lconst 1, 1) := dk_10 (dk_at dksX2_toEpochMilli_1 15 rfl rfl)
theorem dX2_toEpochMilli_38 : decode cX2_toEpochMilli 38 = .ok (.ladd, 1) := dk_97 (dk_at dksX2_toEpochMilli_1 16 rfl rfl)
theorem dX2_toEpochMilli_39 : decode cX2_toEpochMilli 39 = .ok (.ldc2_w 23, 3) := dk_20 0 23 (dk_at dksX2_toEpochMilli_1 17 rfl rfl)
theorem dX2_toEpochMilli_42 : decode cX2_toEpochMilli 42 = .ok (.invokestatic 67, 3) := dk_184 0 67 (dk_at dksX2_toEpochMilli_1 20 rfl rfl)
theorem dX2_toEpochMilli_45 : decode cX2_toEpochMilli 45 = .ok (.lstore_n 1, 1) := dk_64 (dk_at dksX2_toEpochMilli_1 23 rfl rfl)
theorem dX2_toEpochMilli_46 : decode cX2_toEpochMilli 46 = .ok (.lload_n 1, 1) := dk_31 (dk_at dksX2_toEpochMilli_2 0 rfl rfl)
theorem dX2_toEpochMilli_47 : decode cX2_toEpochMilli 47 = .ok (.ldc2_w 23, 3) := dk_20 0 23 (dk_at dksX2_toEpochMilli_2 1 rfl rfl)
theorem dX2_toEpochMilli_50 : decode cX2_toEpochMilli 50 = .ok (.aload_n 0, 1) := dk_42 (dk_at dksX2_toEpochMilli_2 4 rfl rfl)
theorem dX2_toEpochMilli_51 : decode cX2_toEpochMilli 51 = .ok (.getfield 54, 3) := dk_180 0 54 (dk_at dksX2_toEpochMilli_2 5 rfl rfl)
theorem dX2_toEpochMilli_54 : decode cX2_toEpochMilli 54 = .ok (.ldc 25, 2) := dk_18 25 (dk_at dksX2_toEpochMilli_2 8 rfl rfl)
theorem dX2_toEpochMilli_56 : decode cX2_toEpochMilli 56 = .ok (.idiv, 1) := dk_108 (dk_at dksX2_toEpochMilli_2 10 rfl rfl)
theorem dX2_toEpochMilli_57 : decode cX2_toEpochMilli 57 = .ok (.i2l, 1) := dk_133 (dk_at dksX2_toEpochMilli_2 11 rfl rfl)
theorem dX2_toEpochMilli_58 : decode cX2_toEpochMilli 58 = .ok (.lsub, 1) := dk_101 (dk_at dksX2_toEpochMilli_2 12 rfl rfl)
theorem dX2_toEpochMilli_59 : decode cX2_toEpochMilli 59 = .ok (.invokestatic 70, 3) := dk_184 0 70 (dk_at dksX2_toEpochMilli_2 13 rfl rfl)
theorem dX2_toEpochMilli_62 : decode cX2_toEpochMilli 62 = .ok (.lreturn, 1) := dk_173 (dk_at dksX2_toEpochMilli_2 16 rfl rfl)
theorem q7 : (Jvm.Cond.initialized "Instant") ∈ lw_all := lw_g (lw_at lw_m1 3 rfl) rfl
theorem q26 : (Jvm.Cond.static ({ cls := "Instant", name := "ofEpochSecond", desc := "(JJ)LInstant;" } : Jvm.MethodName)) ∈ lw_all := lw_g (lw_at lw_m1 22 rfl) rfl
theorem q27 : (Jvm.Cond.code ({ cls := "Instant", name := "ofEpochSecond", desc := "(JJ)LInstant;" } : Jvm.MethodName) prog_3_method_1_code (7 : Nat) (Option.some (Jvm.ClassFile.FieldType.object "Instant"))) ∈ lw_all := lw_g (lw_at lw_m1 23 rfl) rfl
theorem q28 : (Jvm.Cond.constantLong "Instant" (3 : Nat) (1000000000 : Int64)) ∈ lw_all := lw_g (lw_at lw_m1 24 rfl) rfl
theorem q29 : (Jvm.Cond.methodLink "Instant" (5 : Nat) ({ cls := "Jdk8Methods", name := "floorDiv", desc := "(JJ)J" } : Jvm.MethodName)) ∈ lw_all := lw_g (lw_at lw_m1 25 rfl) rfl
theorem q32 : (Jvm.Cond.methodLink "Instant" (11 : Nat) ({ cls := "Jdk8Methods", name := "safeAdd", desc := "(JJ)J" } : Jvm.MethodName)) ∈ lw_all := lw_g (lw_at lw_m1 28 rfl) rfl
theorem q102 : (Jvm.Cond.constant "Instant" (14 : Nat) (1000000000 : Int32)) ∈ lw_all := lw_g (lw_at lw_m1 98 rfl) rfl
theorem q103 : (Jvm.Cond.methodLink "Instant" (15 : Nat) ({ cls := "Jdk8Methods", name := "floorMod", desc := "(JI)I" } : Jvm.MethodName)) ∈ lw_all := lw_g (lw_at lw_m1 99 rfl) rfl
theorem q106 : (Jvm.Cond.methodLink "Instant" (19 : Nat) ({ cls := "Instant", name := "create", desc := "(JI)LInstant;" } : Jvm.MethodName)) ∈ lw_all := lw_g (lw_at lw_m1 102 rfl) rfl
theorem q107 : (Jvm.Cond.static ({ cls := "Instant", name := "create", desc := "(JI)LInstant;" } : Jvm.MethodName)) ∈ lw_all := lw_g (lw_at lw_m1 103 rfl) rfl
theorem q108 : (Jvm.Cond.code ({ cls := "Instant", name := "create", desc := "(JI)LInstant;" } : Jvm.MethodName) prog_3_method_3_code (3 : Nat) (Option.some (Jvm.ClassFile.FieldType.object "Instant"))) ∈ lw_all := lw_g (lw_at lw_m1 104 rfl) rfl
theorem q109 : (Jvm.Cond.fieldLink "Instant" (26 : Nat) "Instant" "EPOCH" "LInstant;") ∈ lw_all := lw_g (lw_at lw_m1 105 rfl) rfl
theorem q110 : (Jvm.Cond.laysStatic "Instant" "EPOCH" "LInstant;") ∈ lw_tbl := lw_at lw_m1 106 rfl
theorem q111 : (Jvm.Cond.constantLong "Instant" (30 : Nat) (-31557014167219200 : Int64)) ∈ lw_all := lw_g (lw_at lw_m1 107 rfl) rfl
theorem q112 : (Jvm.Cond.constantLong "Instant" (32 : Nat) (31556889864403199 : Int64)) ∈ lw_all := lw_g (lw_at lw_m1 108 rfl) rfl
theorem q113 : (Jvm.Cond.classLink "Instant" (34 : Nat) "DateTimeException") ∈ lw_all := lw_g (lw_at lw_m1 109 rfl) rfl
theorem q122 : (Jvm.Cond.stringRef "Instant" (36 : Nat) "Instant exceeds minimum or maximum instant") ∈ lw_tbl := lw_at lw_m1 118 rfl
theorem q123 : (Jvm.Cond.methodLink "Instant" (38 : Nat) ({ cls := "DateTimeException", name := "<init>", desc := "(Ljava/lang/String;)V" } : Jvm.MethodName)) ∈ lw_all := lw_g (lw_at lw_m1 119 rfl) rfl
theorem q129 : (Jvm.Cond.classLink "Instant" (1 : Nat) "Instant") ∈ lw_all := lw_g (lw_at lw_m1 125 rfl) rfl
theorem q130 : (Jvm.Cond.instantiable "Instant" (2 : Nat)) ∈ lw_all := lw_g (lw_at lw_m1 126 rfl) rfl
theorem q131 : (Jvm.Cond.methodLink "Instant" (42 : Nat) ({ cls := "Instant", name := "<init>", desc := "(JI)V" } : Jvm.MethodName)) ∈ lw_all := lw_g (lw_at lw_m1 127 rfl) rfl
theorem q132 : (Jvm.Cond.instanceMethod ({ cls := "Instant", name := "<init>", desc := "(JI)V" } : Jvm.MethodName)) ∈ lw_all := lw_g (lw_at lw_m1 128 rfl) rfl
theorem q133 : (Jvm.Cond.code ({ cls := "Instant", name := "<init>", desc := "(JI)V" } : Jvm.MethodName) prog_3_method_4_code (4 : Nat) (Option.none : Option Jvm.ClassFile.FieldType)) ∈ lw_all := lw_g (lw_at lw_m1 129 rfl) rfl
theorem q134 : (Jvm.Cond.methodLink "Instant" (45 : Nat) ({ cls := "DefaultInterfaceTemporalAccessor", name := "<init>", desc := "()V" } : Jvm.MethodName)) ∈ lw_all := lw_g (lw_at lw_m1 130 rfl) rfl
theorem q138 : (Jvm.Cond.fieldLink "Instant" (50 : Nat) "Instant" "seconds" "J") ∈ lw_all := lw_g (lw_at lw_m1 134 rfl) rfl
theorem q139 : (Jvm.Cond.fieldLink "Instant" (54 : Nat) "Instant" "nanos" "I") ∈ lw_all := lw_g (lw_at lw_m1 135 rfl) rfl
theorem q140 : (Jvm.Cond.laysFinal "Instant" "Instant" "seconds" "J") ∈ lw_all := lw_g (lw_at lw_m1 136 rfl) rfl
theorem q141 : (Jvm.Cond.soleField "Instant" "seconds") ∈ lw_all := lw_g (lw_at lw_m1 137 rfl) rfl
theorem q142 : (Jvm.Cond.laysFinal "Instant" "Instant" "nanos" "I") ∈ lw_all := lw_g (lw_at lw_m1 138 rfl) rfl
theorem q143 : (Jvm.Cond.soleField "Instant" "nanos") ∈ lw_all := lw_g (lw_at lw_m1 139 rfl) rfl
theorem q144 : (Jvm.Cond.superclass "Instant" "DefaultInterfaceTemporalAccessor") ∈ lw_all := lw_g (lw_at lw_m1 140 rfl) rfl
theorem q163 : (Jvm.Cond.instanceMethod ({ cls := "Instant", name := "getEpochSecond", desc := "()J" } : Jvm.MethodName)) ∈ lw_all := lw_g (lw_at lw_m1 159 rfl) rfl
theorem q164 : (Jvm.Cond.selects "Instant" ({ cls := "Instant", name := "getEpochSecond", desc := "()J" } : Jvm.MethodName) ({ cls := "Instant", name := "getEpochSecond", desc := "()J" } : Jvm.MethodName)) ∈ lw_all := lw_g (lw_at lw_m1 160 rfl) rfl
theorem q165 : (Jvm.Cond.code ({ cls := "Instant", name := "getEpochSecond", desc := "()J" } : Jvm.MethodName) prog_3_method_5_code (1 : Nat) (Option.some Jvm.ClassFile.FieldType.long)) ∈ lw_all := lw_g (lw_at lw_m1 161 rfl) rfl
theorem q168 : (Jvm.Cond.instanceMethod ({ cls := "Instant", name := "plusSeconds", desc := "(J)LInstant;" } : Jvm.MethodName)) ∈ lw_all := lw_g (lw_at lw_m1 164 rfl) rfl
theorem q169 : (Jvm.Cond.selects "Instant" ({ cls := "Instant", name := "plusSeconds", desc := "(J)LInstant;" } : Jvm.MethodName) ({ cls := "Instant", name := "plusSeconds", desc := "(J)LInstant;" } : Jvm.MethodName)) ∈ lw_all := lw_g (lw_at lw_m1 165 rfl) rfl
theorem q170 : (Jvm.Cond.code ({ cls := "Instant", name := "plusSeconds", desc := "(J)LInstant;" } : Jvm.MethodName) prog_3_method_7_code (3 : Nat) (Option.some (Jvm.ClassFile.FieldType.object "Instant"))) ∈ lw_all := lw_g (lw_at lw_m1 166 rfl) rfl
theorem q171 : (Jvm.Cond.methodLink "Instant" (58 : Nat) ({ cls := "Instant", name := "plus", desc := "(JJ)LInstant;" } : Jvm.MethodName)) ∈ lw_all := lw_g (lw_at lw_m1 167 rfl) rfl
theorem q172 : (Jvm.Cond.privateMethod ({ cls := "Instant", name := "plus", desc := "(JJ)LInstant;" } : Jvm.MethodName)) ∈ lw_tbl := lw_at lw_m1 168 rfl
theorem q173 : (Jvm.Cond.instanceMethod ({ cls := "Instant", name := "plus", desc := "(JJ)LInstant;" } : Jvm.MethodName)) ∈ lw_all := lw_g (lw_at lw_m1 169 rfl) rfl
theorem q174 : (Jvm.Cond.code ({ cls := "Instant", name := "plus", desc := "(JJ)LInstant;" } : Jvm.MethodName) prog_3_method_10_code (9 : Nat) (Option.some (Jvm.ClassFile.FieldType.object "Instant"))) ∈ lw_all := lw_g (lw_at lw_m1 170 rfl) rfl
theorem q175 : (Jvm.Cond.methodLink "Instant" (64 : Nat) ({ cls := "Instant", name := "ofEpochSecond", desc := "(JJ)LInstant;" } : Jvm.MethodName)) ∈ lw_all := lw_g (lw_at lw_m1 171 rfl) rfl
theorem q181 : (Jvm.Cond.instanceMethod ({ cls := "Instant", name := "plusMillis", desc := "(J)LInstant;" } : Jvm.MethodName)) ∈ lw_all := lw_g (lw_at lw_m1 177 rfl) rfl
theorem q182 : (Jvm.Cond.selects "Instant" ({ cls := "Instant", name := "plusMillis", desc := "(J)LInstant;" } : Jvm.MethodName) ({ cls := "Instant", name := "plusMillis", desc := "(J)LInstant;" } : Jvm.MethodName)) ∈ lw_all := lw_g (lw_at lw_m1 178 rfl) rfl
theorem q183 : (Jvm.Cond.code ({ cls := "Instant", name := "plusMillis", desc := "(J)LInstant;" } : Jvm.MethodName) prog_3_method_8_code (3 : Nat) (Option.some (Jvm.ClassFile.FieldType.object "Instant"))) ∈ lw_all := lw_g (lw_at lw_m1 179 rfl) rfl
theorem q184 : (Jvm.Cond.constantLong "Instant" (23 : Nat) (1000 : Int64)) ∈ lw_all := lw_g (lw_at lw_m1 180 rfl) rfl
theorem q185 : (Jvm.Cond.constantLong "Instant" (62 : Nat) (1000000 : Int64)) ∈ lw_all := lw_g (lw_at lw_m1 181 rfl) rfl
theorem q191 : (Jvm.Cond.instanceMethod ({ cls := "Instant", name := "plusNanos", desc := "(J)LInstant;" } : Jvm.MethodName)) ∈ lw_all := lw_g (lw_at lw_m1 187 rfl) rfl
theorem q192 : (Jvm.Cond.selects "Instant" ({ cls := "Instant", name := "plusNanos", desc := "(J)LInstant;" } : Jvm.MethodName) ({ cls := "Instant", name := "plusNanos", desc := "(J)LInstant;" } : Jvm.MethodName)) ∈ lw_all := lw_g (lw_at lw_m1 188 rfl) rfl
theorem q193 : (Jvm.Cond.code ({ cls := "Instant", name := "plusNanos", desc := "(J)LInstant;" } : Jvm.MethodName) prog_3_method_9_code (3 : Nat) (Option.some (Jvm.ClassFile.FieldType.object "Instant"))) ∈ lw_all := lw_g (lw_at lw_m1 189 rfl) rfl
theorem q199 : (Jvm.Cond.static ({ cls := "Instant", name := "ofEpochMilli", desc := "(J)LInstant;" } : Jvm.MethodName)) ∈ lw_all := lw_g (lw_at lw_m1 195 rfl) rfl
theorem q200 : (Jvm.Cond.code ({ cls := "Instant", name := "ofEpochMilli", desc := "(J)LInstant;" } : Jvm.MethodName) prog_3_method_2_code (5 : Nat) (Option.some (Jvm.ClassFile.FieldType.object "Instant"))) ∈ lw_all := lw_g (lw_at lw_m1 196 rfl) rfl
theorem q201 : (Jvm.Cond.constant "Instant" (25 : Nat) (1000000 : Int32)) ∈ lw_all := lw_g (lw_at lw_m1 197 rfl) rfl
theorem q211 : (Jvm.Cond.instanceMethod ({ cls := "Instant", name := "getNano", desc := "()I" } : Jvm.MethodName)) ∈ lw_all := lw_g (lw_at lw_m1 207 rfl) rfl
theorem q212 : (Jvm.Cond.selects "Instant" ({ cls := "Instant", name := "getNano", desc := "()I" } : Jvm.MethodName) ({ cls := "Instant", name := "getNano", desc := "()I" } : Jvm.MethodName)) ∈ lw_all := lw_g (lw_at lw_m1 208 rfl) rfl
theorem q213 : (Jvm.Cond.code ({ cls := "Instant", name := "getNano", desc := "()I" } : Jvm.MethodName) prog_3_method_6_code (1 : Nat) (Option.some Jvm.ClassFile.FieldType.int)) ∈ lw_all := lw_g (lw_at lw_m1 209 rfl) rfl
theorem q219 : (Jvm.Cond.instanceMethod ({ cls := "Instant", name := "isBefore", desc := "(LInstant;)Z" } : Jvm.MethodName)) ∈ lw_all := lw_g (lw_at lw_m1 215 rfl) rfl
theorem q220 : (Jvm.Cond.selects "Instant" ({ cls := "Instant", name := "isBefore", desc := "(LInstant;)Z" } : Jvm.MethodName) ({ cls := "Instant", name := "isBefore", desc := "(LInstant;)Z" } : Jvm.MethodName)) ∈ lw_all := lw_g (lw_at lw_m1 216 rfl) rfl
theorem q221 : (Jvm.Cond.code ({ cls := "Instant", name := "isBefore", desc := "(LInstant;)Z" } : Jvm.MethodName) prog_3_method_14_code (2 : Nat) (Option.some Jvm.ClassFile.FieldType.boolean)) ∈ lw_all := lw_g (lw_at lw_m1 217 rfl) rfl
theorem q222 : (Jvm.Cond.methodLink "Instant" (77 : Nat) ({ cls := "Instant", name := "compareTo", desc := "(LInstant;)I" } : Jvm.MethodName)) ∈ lw_all := lw_g (lw_at lw_m1 218 rfl) rfl
theorem q223 : (Jvm.Cond.instanceMethod ({ cls := "Instant", name := "compareTo", desc := "(LInstant;)I" } : Jvm.MethodName)) ∈ lw_all := lw_g (lw_at lw_m1 219 rfl) rfl
theorem q224 : (Jvm.Cond.selects "Instant" ({ cls := "Instant", name := "compareTo", desc := "(LInstant;)I" } : Jvm.MethodName) ({ cls := "Instant", name := "compareTo", desc := "(LInstant;)I" } : Jvm.MethodName)) ∈ lw_all := lw_g (lw_at lw_m1 220 rfl) rfl
theorem q225 : (Jvm.Cond.code ({ cls := "Instant", name := "compareTo", desc := "(LInstant;)I" } : Jvm.MethodName) prog_3_method_12_code (3 : Nat) (Option.some Jvm.ClassFile.FieldType.int)) ∈ lw_all := lw_g (lw_at lw_m1 221 rfl) rfl
theorem q226 : (Jvm.Cond.methodLink "Instant" (73 : Nat) ({ cls := "Jdk8Methods", name := "compareLongs", desc := "(JJ)I" } : Jvm.MethodName)) ∈ lw_all := lw_g (lw_at lw_m1 222 rfl) rfl
theorem q234 : (Jvm.Cond.instanceMethod ({ cls := "Instant", name := "isAfter", desc := "(LInstant;)Z" } : Jvm.MethodName)) ∈ lw_all := lw_g (lw_at lw_m1 230 rfl) rfl
theorem q235 : (Jvm.Cond.selects "Instant" ({ cls := "Instant", name := "isAfter", desc := "(LInstant;)Z" } : Jvm.MethodName) ({ cls := "Instant", name := "isAfter", desc := "(LInstant;)Z" } : Jvm.MethodName)) ∈ lw_all := lw_g (lw_at lw_m1 231 rfl) rfl
theorem q236 : (Jvm.Cond.code ({ cls := "Instant", name := "isAfter", desc := "(LInstant;)Z" } : Jvm.MethodName) prog_3_method_13_code (2 : Nat) (Option.some Jvm.ClassFile.FieldType.boolean)) ∈ lw_all := lw_g (lw_at lw_m1 232 rfl) rfl
theorem q249 : (Jvm.Cond.instanceMethod ({ cls := "Instant", name := "toEpochMilli", desc := "()J" } : Jvm.MethodName)) ∈ lw_all := lw_g (lw_at lw_m2 5 rfl) rfl
theorem q250 : (Jvm.Cond.selects "Instant" ({ cls := "Instant", name := "toEpochMilli", desc := "()J" } : Jvm.MethodName) ({ cls := "Instant", name := "toEpochMilli", desc := "()J" } : Jvm.MethodName)) ∈ lw_all := lw_g (lw_at lw_m2 6 rfl) rfl
theorem q251 : (Jvm.Cond.code ({ cls := "Instant", name := "toEpochMilli", desc := "()J" } : Jvm.MethodName) prog_3_method_11_code (3 : Nat) (Option.some Jvm.ClassFile.FieldType.long)) ∈ lw_all := lw_g (lw_at lw_m2 7 rfl) rfl
theorem q252 : (Jvm.Cond.methodLink "Instant" (67 : Nat) ({ cls := "Jdk8Methods", name := "safeMultiply", desc := "(JJ)J" } : Jvm.MethodName)) ∈ lw_all := lw_g (lw_at lw_m2 8 rfl) rfl
theorem q257 : (Jvm.Cond.methodLink "Instant" (70 : Nat) ({ cls := "Jdk8Methods", name := "safeSubtract", desc := "(JJ)J" } : Jvm.MethodName)) ∈ lw_all := lw_g (lw_at lw_m2 13 rfl) rfl
theorem in_X2 : ∀ w ∈ wsX20, w ∈ lw_all := lw_in wsX20 [140, 142] (by decide +kernel) (by decide +kernel)
end
section
theorem q24 : (Jvm.Cond.arrayOver (Jvm.ClassFile.FieldType.object "Instant")) ∈ lw_tbl := lw_at lw_m1 20 rfl
set_option maxRecDepth 100000
theorem q101 : (Jvm.Cond.arrayClass Jvm.ClassFile.FieldType.byte) ∈ lw_all := lw_g (lw_at lw_m1 97 rfl) rfl
theorem q273 : (Jvm.Cond.arrayClass Jvm.ClassFile.FieldType.long) ∈ lw_all := lw_g (lw_at lw_m2 29 rfl) rfl
/-! InstantDeskModel -/
set_option maxRecDepth 100000
def RX5 : String := "InstantDeskModel"
def TX5 : u_T := fun k => match k with
  | 0 => ("InstantDeskModel", "whole", "[J", true)
  | _ => ("InstantDeskModel", "part", "[J", true)
def tyX5 : Nat → FieldType := fun k => match k with
  | 0 => .array .long
  | _ => .array .long
abbrev wsX50 : List Cond := u_ws RX5 TX5 2
theorem nmX5 : ∀ a, a < 2 → ∀ b, b < 2 → a ≠ b → (TX5 a).2.1 ≠ (TX5 b).2.1 := by decide +kernel
theorem tyX5_ok : ∀ k, k < 2 → parseFieldDescriptor (TX5 k).2.2.1 = some (tyX5 k) := by decide +kernel
abbrev cX5_init : ByteArray := prog_6_method_1_code
def yX5_init : MethodName := ⟨RX5, "<init>", "()V"⟩
def dkwX5_init_0 : List UInt8 := [42, 183, 0, 1, 42, 5, 188, 11, 181, 0, 7, 42, 5, 188, 11, 181, 0, 13, 177]
abbrev dktX5_init_0 : List UInt8 := dkwX5_init_0 ++ []
theorem dksX5_init_0 : cX5_init.data.toList.drop 0 = dktX5_init_0 := by decide +kernel
theorem dX5_init_0 : decode cX5_init 0 = .ok (.aload_n 0, 1) := dk_42 (dk_at dksX5_init_0 0 rfl rfl)
theorem dX5_init_1 : decode cX5_init 1 = .ok (.invokespecial 1, 3) := dk_183 0 1 (dk_at dksX5_init_0 1 rfl rfl)
theorem dX5_init_4 : decode cX5_init 4 = .ok (.aload_n 0, 1) := dk_42 (dk_at dksX5_init_0 4 rfl rfl)
theorem dX5_init_5 : decode cX5_init 5 = .ok (.iconst 2, 1) := dk_5 (dk_at dksX5_init_0 5 rfl rfl)
theorem dX5_init_6 : decode cX5_init 6 = .ok (.newarray .long, 2) := dk_188_11 (dk_at dksX5_init_0 6 rfl rfl)
theorem dX5_init_8 : decode cX5_init 8 = .ok (.putfield 7, 3) := dk_181 0 7 (dk_at dksX5_init_0 8 rfl rfl)
theorem dX5_init_11 : decode cX5_init 11 = .ok (.aload_n 0, 1) := dk_42 (dk_at dksX5_init_0 11 rfl rfl)
theorem dX5_init_12 : decode cX5_init 12 = .ok (.iconst 2, 1) := dk_5 (dk_at dksX5_init_0 12 rfl rfl)
theorem dX5_init_13 : decode cX5_init 13 = .ok (.newarray .long, 2) := dk_188_11 (dk_at dksX5_init_0 13 rfl rfl)
theorem dX5_init_15 : decode cX5_init 15 = .ok (.putfield 13, 3) := dk_181 0 13 (dk_at dksX5_init_0 15 rfl rfl)
theorem dX5_init_18 : decode cX5_init 18 = .ok (.return_, 1) := dk_177 (dk_at dksX5_init_0 18 rfl rfl)
abbrev cX5_set : ByteArray := prog_6_method_7_code
def yX5_set : MethodName := ⟨RX5, "set", "(IIII)V"⟩
def dkwX5_set_0 : List UInt8 := [42, 27, 184, 0, 28, 28, 29, 184, 0, 32, 20, 0, 26, 113, 21, 4, 133, 182, 0, 36, 177]
abbrev dktX5_set_0 : List UInt8 := dkwX5_set_0 ++ []
theorem dksX5_set_0 : cX5_set.data.toList.drop 0 = dktX5_set_0 := by decide +kernel
theorem dX5_set_0 : decode cX5_set 0 = .ok (.aload_n 0, 1) := dk_42 (dk_at dksX5_set_0 0 rfl rfl)
theorem dX5_set_1 : decode cX5_set 1 = .ok (.iload_n 1, 1) := dk_27 (dk_at dksX5_set_0 1 rfl rfl)
theorem dX5_set_2 : decode cX5_set 2 = .ok (.invokestatic 28, 3) := dk_184 0 28 (dk_at dksX5_set_0 2 rfl rfl)
theorem dX5_set_5 : decode cX5_set 5 = .ok (.iload_n 2, 1) := dk_28 (dk_at dksX5_set_0 5 rfl rfl)
theorem dX5_set_6 : decode cX5_set 6 = .ok (.iload_n 3, 1) := dk_29 (dk_at dksX5_set_0 6 rfl rfl)
theorem dX5_set_7 : decode cX5_set 7 = .ok (.invokestatic 32, 3) := dk_184 0 32 (dk_at dksX5_set_0 7 rfl rfl)
theorem dX5_set_10 : decode cX5_set 10 = .ok (.ldc2_w 26, 3) := dk_20 0 26 (dk_at dksX5_set_0 10 rfl rfl)
theorem dX5_set_13 : decode cX5_set 13 = .ok (.lrem, 1) := dk_113 (dk_at dksX5_set_0 13 rfl rfl)
theorem dX5_set_14 : decode cX5_set 14 = .ok (.iload 4, 2) := dk_21 4 (dk_at dksX5_set_0 14 rfl rfl)
theorem dX5_set_16 : decode cX5_set 16 = .ok (.i2l, 1) := dk_133 (dk_at dksX5_set_0 16 rfl rfl)
theorem dX5_set_17 : decode cX5_set 17 = .ok (.invokevirtual 36, 3) := dk_182 0 36 (dk_at dksX5_set_0 17 rfl rfl)
theorem dX5_set_20 : decode cX5_set 20 = .ok (.return_, 1) := dk_177 (dk_at dksX5_set_0 20 rfl rfl)
abbrev cX5_index : ByteArray := prog_6_method_4_code
def yX5_index : MethodName := ⟨RX5, "index", "(I)I"⟩
def dkwX5_index_0 : List UInt8 := [26, 4, 126, 172]
abbrev dktX5_index_0 : List UInt8 := dkwX5_index_0 ++ []
theorem dksX5_index_0 : cX5_index.data.toList.drop 0 = dktX5_index_0 := by decide +kernel
theorem dX5_index_0 : decode cX5_index 0 = .ok (.iload_n 0, 1) := dk_26 (dk_at dksX5_index_0 0 rfl rfl)
theorem dX5_index_1 : decode cX5_index 1 = .ok (.iconst 1, 1) := dk_4 (dk_at dksX5_index_0 1 rfl rfl)
theorem dX5_index_2 : decode cX5_index 2 = .ok (.iand, 1) := dk_126 (dk_at dksX5_index_0 2 rfl rfl)
theorem dX5_index_3 : decode cX5_index 3 = .ok (.ireturn, 1) := dk_172 (dk_at dksX5_index_0 3 rfl rfl)
abbrev cX5_join : ByteArray := prog_6_method_3_code
def yX5_join : MethodName := ⟨RX5, "join", "(II)J"⟩
def dkwX5_join_0 : List UInt8 := [27, 133, 65, 32, 9, 148, 156, 0, 9, 32, 20, 0, 16, 97, 65, 26, 133, 20, 0, 16, 105, 32, 97, 173]
abbrev dktX5_join_0 : List UInt8 := dkwX5_join_0 ++ []
theorem dksX5_join_0 : cX5_join.data.toList.drop 0 = dktX5_join_0 := by decide +kernel
theorem dX5_join_0 : decode cX5_join 0 = .ok (.iload_n 1, 1) := dk_27 (dk_at dksX5_join_0 0 rfl rfl)
theorem dX5_join_1 : decode cX5_join 1 = .ok (.i2l, 1) := dk_133 (dk_at dksX5_join_0 1 rfl rfl)
theorem dX5_join_2 : decode cX5_join 2 = .ok (.lstore_n 2, 1) := dk_65 (dk_at dksX5_join_0 2 rfl rfl)
theorem dX5_join_3 : decode cX5_join 3 = .ok (.lload_n 2, 1) := dk_32 (dk_at dksX5_join_0 3 rfl rfl)
theorem dX5_join_4 : decode cX5_join 4 = .ok (.lconst 0, 1) := dk_9 (dk_at dksX5_join_0 4 rfl rfl)
theorem dX5_join_5 : decode cX5_join 5 = .ok (.lcmp, 1) := dk_148 (dk_at dksX5_join_0 5 rfl rfl)
theorem dX5_join_6 : decode cX5_join 6 = .ok (.ifCond .ge 9, 3) := dk_156 0 9 (dk_at dksX5_join_0 6 rfl rfl)
theorem dX5_join_9 : decode cX5_join 9 = .ok (.lload_n 2, 1) := dk_32 (dk_at dksX5_join_0 9 rfl rfl)
theorem dX5_join_10 : decode cX5_join 10 = .ok (.ldc2_w 16, 3) := dk_20 0 16 (dk_at dksX5_join_0 10 rfl rfl)
theorem dX5_join_13 : decode cX5_join 13 = .ok (.ladd, 1) := dk_97 (dk_at dksX5_join_0 13 rfl rfl)
theorem dX5_join_14 : decode cX5_join 14 = .ok (.lstore_n 2, 1) := dk_65 (dk_at dksX5_join_0 14 rfl rfl)
theorem dX5_join_15 : decode cX5_join 15 = .ok (.iload_n 0, 1) := dk_26 (dk_at dksX5_join_0 15 rfl rfl)
theorem dX5_join_16 : decode cX5_join 16 = .ok (.i2l, 1) := dk_133 (dk_at dksX5_join_0 16 rfl rfl)
theorem dX5_join_17 : decode cX5_join 17 = .ok (.ldc2_w 16, 3) := dk_20 0 16 (dk_at dksX5_join_0 17 rfl rfl)
theorem dX5_join_20 : decode cX5_join 20 = .ok (.lmul, 1) := dk_105 (dk_at dksX5_join_0 20 rfl rfl)
theorem dX5_join_21 : decode cX5_join 21 = .ok (.lload_n 2, 1) := dk_32 (dk_at dksX5_join_0 21 rfl rfl)
theorem dX5_join_22 : decode cX5_join 22 = .ok (.ladd, 1) := dk_97 (dk_at dksX5_join_0 22 rfl rfl)
theorem dX5_join_23 : decode cX5_join 23 = .ok (.lreturn, 1) := dk_173 (dk_at dksX5_join_0 23 rfl rfl)
abbrev cX5_put : ByteArray := prog_6_method_5_code
def yX5_put : MethodName := ⟨RX5, "put", "(IJJ)V"⟩
def dkwX5_put_1 : List UInt8 := [27, 22, 4, 22, 6, 20, 0, 18, 105, 101, 80, 177]
abbrev dktX5_put_1 : List UInt8 := dkwX5_put_1 ++ []
def dkwX5_put_0 : List UInt8 := [22, 4, 20, 0, 18, 184, 0, 20, 55, 6, 42, 180, 0, 7, 27, 32, 22, 6, 97, 80, 42, 180, 0, 13]
abbrev dktX5_put_0 : List UInt8 := dkwX5_put_0 ++ dktX5_put_1
theorem dksX5_put_0 : cX5_put.data.toList.drop 0 = dktX5_put_0 := by decide +kernel
theorem dksX5_put_1 : cX5_put.data.toList.drop 24 = dktX5_put_1 := dk_seg dksX5_put_0 24 rfl rfl
theorem dX5_put_0 : decode cX5_put 0 = .ok (.lload 4, 2) := dk_22 4 (dk_at dksX5_put_0 0 rfl rfl)
theorem dX5_put_2 : decode cX5_put 2 = .ok (.ldc2_w 18, 3) := dk_20 0 18 (dk_at dksX5_put_0 2 rfl rfl)
theorem dX5_put_5 : decode cX5_put 5 = .ok (.invokestatic 20, 3) := dk_184 0 20 (dk_at dksX5_put_0 5 rfl rfl)
theorem dX5_put_8 : decode cX5_put 8 = .ok (.lstore 6, 2) := dk_55 6 (dk_at dksX5_put_0 8 rfl rfl)
theorem dX5_put_10 : decode cX5_put 10 = .ok (.aload_n 0, 1) := dk_42 (dk_at dksX5_put_0 10 rfl rfl)
theorem dX5_put_11 : decode cX5_put 11 = .ok (.getfield 7, 3) := dk_180 0 7 (dk_at dksX5_put_0 11 rfl rfl)
theorem dX5_put_14 : decode cX5_put 14 = .ok (.iload_n 1, 1) := dk_27 (dk_at dksX5_put_0 14 rfl rfl)
theorem dX5_put_15 : decode cX5_put 15 = .ok (.lload_n 2, 1) := dk_32 (dk_at dksX5_put_0 15 rfl rfl)
theorem dX5_put_16 : decode cX5_put 16 = .ok (.lload 6, 2) := dk_22 6 (dk_at dksX5_put_0 16 rfl rfl)
theorem dX5_put_18 : decode cX5_put 18 = .ok (.ladd, 1) := dk_97 (dk_at dksX5_put_0 18 rfl rfl)
theorem dX5_put_19 : decode cX5_put 19 = .ok (.lastore, 1) := dk_80 (dk_at dksX5_put_0 19 rfl rfl)
theorem dX5_put_20 : decode cX5_put 20 = .ok (.aload_n 0, 1) := dk_42 (dk_at dksX5_put_0 20 rfl rfl)
theorem dX5_put_21 : decode cX5_put 21 = .ok (.getfield 13, 3) := dk_180 0 13 (dk_at dksX5_put_0 21 rfl rfl)
theorem dX5_put_24 : decode cX5_put 24 = .ok (.iload_n 1, 1) := dk_27 (dk_at dksX5_put_1 0 rfl rfl)
theorem dX5_put_25 : decode cX5_put 25 = .ok (.lload 4, 2) := dk_22 4 (dk_at dksX5_put_1 1 rfl rfl)
theorem dX5_put_27 : decode cX5_put 27 = .ok (.lload 6, 2) := dk_22 6 (dk_at dksX5_put_1 3 rfl rfl)
theorem dX5_put_29 : decode cX5_put 29 = .ok (.ldc2_w 18, 3) := dk_20 0 18 (dk_at dksX5_put_1 5 rfl rfl)
theorem dX5_put_32 : decode cX5_put 32 = .ok (.lmul, 1) := dk_105 (dk_at dksX5_put_1 8 rfl rfl)
theorem dX5_put_33 : decode cX5_put 33 = .ok (.lsub, 1) := dk_101 (dk_at dksX5_put_1 9 rfl rfl)
theorem dX5_put_34 : decode cX5_put 34 = .ok (.lastore, 1) := dk_80 (dk_at dksX5_put_1 10 rfl rfl)
theorem dX5_put_35 : decode cX5_put 35 = .ok (.return_, 1) := dk_177 (dk_at dksX5_put_1 11 rfl rfl)
abbrev cX5_floor : ByteArray := prog_6_method_2_code
def yX5_floor : MethodName := ⟨RX5, "floor", "(JJ)J"⟩
def dkwX5_floor_0 : List UInt8 := [30, 32, 109, 55, 4, 30, 32, 113, 9, 148, 156, 0, 9, 22, 4, 10, 101, 55, 4, 22, 4, 173]
abbrev dktX5_floor_0 : List UInt8 := dkwX5_floor_0 ++ []
theorem dksX5_floor_0 : cX5_floor.data.toList.drop 0 = dktX5_floor_0 := by decide +kernel
theorem dX5_floor_0 : decode cX5_floor 0 = .ok (.lload_n 0, 1) := dk_30 (dk_at dksX5_floor_0 0 rfl rfl)
theorem dX5_floor_1 : decode cX5_floor 1 = .ok (.lload_n 2, 1) := dk_32 (dk_at dksX5_floor_0 1 rfl rfl)
theorem dX5_floor_2 : decode cX5_floor 2 = .ok (.ldiv, 1) := dk_109 (dk_at dksX5_floor_0 2 rfl rfl)
theorem dX5_floor_3 : decode cX5_floor 3 = .ok (.lstore 4, 2) := dk_55 4 (dk_at dksX5_floor_0 3 rfl rfl)
theorem dX5_floor_5 : decode cX5_floor 5 = .ok (.lload_n 0, 1) := dk_30 (dk_at dksX5_floor_0 5 rfl rfl)
theorem dX5_floor_6 : decode cX5_floor 6 = .ok (.lload_n 2, 1) := dk_32 (dk_at dksX5_floor_0 6 rfl rfl)
theorem dX5_floor_7 : decode cX5_floor 7 = .ok (.lrem, 1) := dk_113 (dk_at dksX5_floor_0 7 rfl rfl)
theorem dX5_floor_8 : decode cX5_floor 8 = .ok (.lconst 0, 1) := dk_9 (dk_at dksX5_floor_0 8 rfl rfl)
theorem dX5_floor_9 : decode cX5_floor 9 = .ok (.lcmp, 1) := dk_148 (dk_at dksX5_floor_0 9 rfl rfl)
theorem dX5_floor_10 : decode cX5_floor 10 = .ok (.ifCond .ge 9, 3) := dk_156 0 9 (dk_at dksX5_floor_0 10 rfl rfl)
theorem dX5_floor_13 : decode cX5_floor 13 = .ok (.lload 4, 2) := dk_22 4 (dk_at dksX5_floor_0 13 rfl rfl)
theorem dX5_floor_15 : decode cX5_floor 15 = .ok (.lconst 1, 1) := dk_10 (dk_at dksX5_floor_0 15 rfl rfl)
theorem dX5_floor_16 : decode cX5_floor 16 = .ok (.lsub, 1) := dk_101 (dk_at dksX5_floor_0 16 rfl rfl)
theorem dX5_floor_17 : decode cX5_floor 17 = .ok (.lstore 4, 2) := dk_55 4 (dk_at dksX5_floor_0 17 rfl rfl)
theorem dX5_floor_19 : decode cX5_floor 19 = .ok (.lload 4, 2) := dk_22 4 (dk_at dksX5_floor_0 19 rfl rfl)
theorem dX5_floor_21 : decode cX5_floor 21 = .ok (.lreturn, 1) := dk_173 (dk_at dksX5_floor_0 21 rfl rfl)
abbrev cX5_seconds : ByteArray := prog_6_method_8_code
def yX5_seconds : MethodName := ⟨RX5, "seconds", "(II)Z"⟩
def dkwX5_seconds_1 : List UInt8 := [29, 47, 28, 133, 97, 80, 4, 172]
abbrev dktX5_seconds_1 : List UInt8 := dkwX5_seconds_1 ++ []
def dkwX5_seconds_0 : List UInt8 := [27, 184, 0, 28, 62, 42, 29, 182, 0, 40, 154, 0, 5, 3, 172, 42, 180, 0, 7, 29, 42, 180, 0, 7]
abbrev dktX5_seconds_0 : List UInt8 := dkwX5_seconds_0 ++ dktX5_seconds_1
theorem dksX5_seconds_0 : cX5_seconds.data.toList.drop 0 = dktX5_seconds_0 := by decide +kernel
theorem dksX5_seconds_1 : cX5_seconds.data.toList.drop 24 = dktX5_seconds_1 := dk_seg dksX5_seconds_0 24 rfl rfl
theorem dX5_seconds_0 : decode cX5_seconds 0 = .ok (.iload_n 1, 1) := dk_27 (dk_at dksX5_seconds_0 0 rfl rfl)
theorem dX5_seconds_1 : decode cX5_seconds 1 = .ok (.invokestatic 28, 3) := dk_184 0 28 (dk_at dksX5_seconds_0 1 rfl rfl)
theorem dX5_seconds_4 : decode cX5_seconds 4 = .ok (.istore_n 3, 1) := dk_62 (dk_at dksX5_seconds_0 4 rfl rfl)
theorem dX5_seconds_5 : decode cX5_seconds 5 = .ok (.aload_n 0, 1) := dk_42 (dk_at dksX5_seconds_0 5 rfl rfl)
theorem dX5_seconds_6 : decode cX5_seconds 6 = .ok (.iload_n 3, 1) := dk_29 (dk_at dksX5_seconds_0 6 rfl rfl)
theorem dX5_seconds_7 : decode cX5_seconds 7 = .ok (.invokevirtual 40, 3) := dk_182 0 40 (dk_at dksX5_seconds_0 7 rfl rfl)
theorem dX5_seconds_10 : decode cX5_seconds 10 = .ok (.ifCond .ne 5, 3) := dk_154 0 5 (dk_at dksX5_seconds_0 10 rfl rfl)
theorem dX5_seconds_13 : decode cX5_seconds 13 = .ok (.iconst 0, 1) := dk_3 (dk_at dksX5_seconds_0 13 rfl rfl)
theorem dX5_seconds_14 : decode cX5_seconds 14 = .ok (.ireturn, 1) := dk_172 (dk_at dksX5_seconds_0 14 rfl rfl)
theorem dX5_seconds_15 : decode cX5_seconds 15 = .ok (.aload_n 0, 1) := dk_42 (dk_at dksX5_seconds_0 15 rfl rfl)
theorem dX5_seconds_16 : decode cX5_seconds 16 = .ok (.getfield 7, 3) := dk_180 0 7 (dk_at dksX5_seconds_0 16 rfl rfl)
theorem dX5_seconds_19 : decode cX5_seconds 19 = .ok (.iload_n 3, 1) := dk_29 (dk_at dksX5_seconds_0 19 rfl rfl)
theorem dX5_seconds_20 : decode cX5_seconds 20 = .ok (.aload_n 0, 1) := dk_42 (dk_at dksX5_seconds_0 20 rfl rfl)
theorem dX5_seconds_21 : decode cX5_seconds 21 = .ok (.getfield 7, 3) := dk_180 0 7 (dk_at dksX5_seconds_0 21 rfl rfl)
theorem dX5_seconds_24 : decode cX5_seconds 24 = .ok (.iload_n 3, 1) := dk_29 (dk_at dksX5_seconds_1 0 rfl rfl)
theorem dX5_seconds_25 : decode cX5_seconds 25 = .ok (.laload, 1) := dk_47 (dk_at dksX5_seconds_1 1 rfl rfl)
theorem dX5_seconds_26 : decode cX5_seconds 26 = .ok (.iload_n 2, 1) := dk_28 (dk_at dksX5_seconds_1 2 rfl rfl)
theorem dX5_seconds_27 : decode cX5_seconds 27 = .ok (.i2l, 1) := dk_133 (dk_at dksX5_seconds_1 3 rfl rfl)
theorem dX5_seconds_28 : decode cX5_seconds 28 = .ok (.ladd, 1) := dk_97 (dk_at dksX5_seconds_1 4 rfl rfl)
theorem dX5_seconds_29 : decode cX5_seconds 29 = .ok (.lastore, 1) := dk_80 (dk_at dksX5_seconds_1 5 rfl rfl)
theorem dX5_seconds_30 : decode cX5_seconds 30 = .ok (.iconst 1, 1) := dk_4 (dk_at dksX5_seconds_1 6 rfl rfl)
theorem dX5_seconds_31 : decode cX5_seconds 31 = .ok (.ireturn, 1) := dk_172 (dk_at dksX5_seconds_1 7 rfl rfl)
abbrev cX5_open : ByteArray := prog_6_method_6_code
def yX5_open : MethodName := ⟨RX5, "open", "(I)Z"⟩
def dkwX5_open_1 : List UInt8 := [157, 0, 7, 4, 167, 0, 4, 3, 172]
abbrev dktX5_open_1 : List UInt8 := dkwX5_open_1 ++ []
def dkwX5_open_0 : List UInt8 := [42, 180, 0, 7, 27, 47, 20, 0, 24, 148, 155, 0, 20, 42, 180, 0, 7, 27, 47, 20, 0, 26, 148]
abbrev dktX5_open_0 : List UInt8 := dkwX5_open_0 ++ dktX5_open_1
theorem dksX5_open_0 : cX5_open.data.toList.drop 0 = dktX5_open_0 := by decide +kernel
theorem dksX5_open_1 : cX5_open.data.toList.drop 23 = dktX5_open_1 := dk_seg dksX5_open_0 23 rfl rfl
theorem dX5_open_0 : decode cX5_open 0 = .ok (.aload_n 0, 1) := dk_42 (dk_at dksX5_open_0 0 rfl rfl)
theorem dX5_open_1 : decode cX5_open 1 = .ok (.getfield 7, 3) := dk_180 0 7 (dk_at dksX5_open_0 1 rfl rfl)
theorem dX5_open_4 : decode cX5_open 4 = .ok (.iload_n 1, 1) := dk_27 (dk_at dksX5_open_0 4 rfl rfl)
theorem dX5_open_5 : decode cX5_open 5 = .ok (.laload, 1) := dk_47 (dk_at dksX5_open_0 5 rfl rfl)
theorem dX5_open_6 : decode cX5_open 6 = .ok (.ldc2_w 24, 3) := dk_20 0 24 (dk_at dksX5_open_0 6 rfl rfl)
theorem dX5_open_9 : decode cX5_open 9 = .ok (.lcmp, 1) := dk_148 (dk_at dksX5_open_0 9 rfl rfl)
theorem dX5_open_10 : decode cX5_open 10 = .ok (.ifCond .lt 20, 3) := dk_155 0 20 (dk_at dksX5_open_0 10 rfl rfl)
theorem dX5_open_13 : decode cX5_open 13 = .ok (.aload_n 0, 1) := dk_42 (dk_at dksX5_open_0 13 rfl rfl)
theorem dX5_open_14 : decode cX5_open 14 = .ok (.getfield 7, 3) := dk_180 0 7 (dk_at dksX5_open_0 14 rfl rfl)
theorem dX5_open_17 : decode cX5_open 17 = .ok (.iload_n 1, 1) := dk_27 (dk_at dksX5_open_0 17 rfl rfl)
theorem dX5_open_18 : decode cX5_open 18 = .ok (.laload, 1) := dk_47 (dk_at dksX5_open_0 18 rfl rfl)
theorem dX5_open_19 : decode cX5_open 19 = .ok (.ldc2_w 26, 3) := dk_20 0 26 (dk_at dksX5_open_0 19 rfl rfl)
theorem dX5_open_22 : decode cX5_open 22 = .ok (.lcmp, 1) := dk_148 (dk_at dksX5_open_0 22 rfl rfl)
theorem dX5_open_23 : decode cX5_open 23 = .ok (.ifCond .gt 7, 3) := dk_157 0 7 (dk_at dksX5_open_1 0 rfl rfl)
theorem dX5_open_26 : decode cX5_open 26 = .ok (.iconst 1, 1) := dk_4 (dk_at dksX5_open_1 3 rfl rfl)
theorem dX5_open_27 : decode cX5_open 27 = .ok (.goto 4, 3) := dk_167 0 4 (dk_at dksX5_open_1 4 rfl rfl)
theorem dX5_open_30 : decode cX5_open 30 = .ok (.iconst 0, 1) := dk_3 (dk_at dksX5_open_1 7 rfl rfl)
theorem dX5_open_31 : decode cX5_open 31 = .ok (.ireturn, 1) := dk_172 (dk_at dksX5_open_1 8 rfl rfl)
abbrev cX5_millis : ByteArray := prog_6_method_9_code
def yX5_millis : MethodName := ⟨RX5, "millis", "(II)Z"⟩
def dkwX5_millis_1 : List UInt8 := [180, 0, 13, 29, 47, 28, 133, 20, 0, 44, 105, 97, 182, 0, 36, 4, 172]
abbrev dktX5_millis_1 : List UInt8 := dkwX5_millis_1 ++ []
def dkwX5_millis_0 : List UInt8 := [27, 184, 0, 28, 62, 42, 29, 182, 0, 40, 154, 0, 5, 3, 172, 42, 29, 42, 180, 0, 7, 29, 47, 42]
abbrev dktX5_millis_0 : List UInt8 := dkwX5_millis_0 ++ dktX5_millis_1
theorem dksX5_millis_0 : cX5_millis.data.toList.drop 0 = dktX5_millis_0 := by decide +kernel
theorem dksX5_millis_1 : cX5_millis.data.toList.drop 24 = dktX5_millis_1 := dk_seg dksX5_millis_0 24 rfl rfl
theorem dX5_millis_0 : decode cX5_millis 0 = .ok (.iload_n 1, 1) := dk_27 (dk_at dksX5_millis_0 0 rfl rfl)
theorem dX5_millis_1 : decode cX5_millis 1 = .ok (.invokestatic 28, 3) := dk_184 0 28 (dk_at dksX5_millis_0 1 rfl rfl)
theorem dX5_millis_4 : decode cX5_millis 4 = .ok (.istore_n 3, 1) := dk_62 (dk_at dksX5_millis_0 4 rfl rfl)
theorem dX5_millis_5 : decode cX5_millis 5 = .ok (.aload_n 0, 1) := dk_42 (dk_at dksX5_millis_0 5 rfl rfl)
theorem dX5_millis_6 : decode cX5_millis 6 = .ok (.iload_n 3, 1) := dk_29 (dk_at dksX5_millis_0 6 rfl rfl)
theorem dX5_millis_7 : decode cX5_millis 7 = .ok (.invokevirtual 40, 3) := dk_182 0 40 (dk_at dksX5_millis_0 7 rfl rfl)
theorem dX5_millis_10 : decode cX5_millis 10 = .ok (.ifCond .ne 5, 3) := dk_154 0 5 (dk_at dksX5_millis_0 10 rfl rfl)
theorem dX5_millis_13 : decode cX5_millis 13 = .ok (.iconst 0, 1) := dk_3 (dk_at dksX5_millis_0 13 rfl rfl)
theorem dX5_millis_14 : decode cX5_millis 14 = .ok (.ireturn, 1) := dk_172 (dk_at dksX5_millis_0 14 rfl rfl)
theorem dX5_millis_15 : decode cX5_millis 15 = .ok (.aload_n 0, 1) := dk_42 (dk_at dksX5_millis_0 15 rfl rfl)
theorem dX5_millis_16 : decode cX5_millis 16 = .ok (.iload_n 3, 1) := dk_29 (dk_at dksX5_millis_0 16 rfl rfl)
theorem dX5_millis_17 : decode cX5_millis 17 = .ok (.aload_n 0, 1) := dk_42 (dk_at dksX5_millis_0 17 rfl rfl)
theorem dX5_millis_18 : decode cX5_millis 18 = .ok (.getfield 7, 3) := dk_180 0 7 (dk_at dksX5_millis_0 18 rfl rfl)
theorem dX5_millis_21 : decode cX5_millis 21 = .ok (.iload_n 3, 1) := dk_29 (dk_at dksX5_millis_0 21 rfl rfl)
theorem dX5_millis_22 : decode cX5_millis 22 = .ok (.laload, 1) := dk_47 (dk_at dksX5_millis_0 22 rfl rfl)
theorem dX5_millis_23 : decode cX5_millis 23 = .ok (.aload_n 0, 1) := dk_42 (dk_at dksX5_millis_0 23 rfl rfl)
theorem dX5_millis_24 : decode cX5_millis 24 = .ok (.getfield 13, 3) := dk_180 0 13 (dk_at dksX5_millis_1 0 rfl rfl)
theorem dX5_millis_27 : decode cX5_millis 27 = .ok (.iload_n 3, 1) := dk_29 (dk_at dksX5_millis_1 3 rfl rfl)
theorem dX5_millis_28 : decode cX5_millis 28 = .ok (.laload, 1) := dk_47 (dk_at dksX5_millis_1 4 rfl rfl)
theorem dX5_millis_29 : decode cX5_millis 29 = .ok (.iload_n 2, 1) := dk_28 (dk_at dksX5_millis_1 5 rfl rfl)
theorem dX5_millis_30 : decode cX5_millis 30 = .ok (.i2l, 1) := dk_133 (dk_at dksX5_millis_1 6 rfl rfl)
theorem dX5_millis_31 : decode cX5_millis 31 = .ok (.ldc2_w 44, 3) := dk_20 0 44 (dk_at dksX5_millis_1 7 rfl rfl)
theorem dX5_millis_34 : decode cX5_millis 34 = .ok (.lmul, 1) := dk_105 (dk_at dksX5_millis_1 10 rfl rfl)
theorem dX5_millis_35 : decode cX5_millis 35 = .ok (.ladd, 1) := dk_97 (dk_at dksX5_millis_1 11 rfl rfl)
theorem dX5_millis_36 : decode cX5_millis 36 = .ok (.invokevirtual 36, 3) := dk_182 0 36 (dk_at dksX5_millis_1 12 rfl rfl)
theorem dX5_millis_39 : decode cX5_millis 39 = .ok (.iconst 1, 1) := dk_4 (dk_at dksX5_millis_1 15 rfl rfl)
theorem dX5_millis_40 : decode cX5_millis 40 = .ok (.ireturn, 1) := dk_172 (dk_at dksX5_millis_1 16 rfl rfl)
abbrev cX5_nanos : ByteArray := prog_6_method_10_code
def yX5_nanos : MethodName := ⟨RX5, "nanos", "(II)Z"⟩
def dkwX5_nanos_1 : List UInt8 := [180, 0, 13, 29, 47, 28, 133, 97, 182, 0, 36, 4, 172]
abbrev dktX5_nanos_1 : List UInt8 := dkwX5_nanos_1 ++ []
def dkwX5_nanos_0 : List UInt8 := [27, 184, 0, 28, 62, 42, 29, 182, 0, 40, 154, 0, 5, 3, 172, 42, 29, 42, 180, 0, 7, 29, 47, 42]
abbrev dktX5_nanos_0 : List UInt8 := dkwX5_nanos_0 ++ dktX5_nanos_1
theorem dksX5_nanos_0 : cX5_nanos.data.toList.drop 0 = dktX5_nanos_0 := by decide +kernel
theorem dksX5_nanos_1 : cX5_nanos.data.toList.drop 24 = dktX5_nanos_1 := dk_seg dksX5_nanos_0 24 rfl rfl
theorem dX5_nanos_0 : decode cX5_nanos 0 = .ok (.iload_n 1, 1) := dk_27 (dk_at dksX5_nanos_0 0 rfl rfl)
theorem dX5_nanos_1 : decode cX5_nanos 1 = .ok (.invokestatic 28, 3) := dk_184 0 28 (dk_at dksX5_nanos_0 1 rfl rfl)
theorem dX5_nanos_4 : decode cX5_nanos 4 = .ok (.istore_n 3, 1) := dk_62 (dk_at dksX5_nanos_0 4 rfl rfl)
theorem dX5_nanos_5 : decode cX5_nanos 5 = .ok (.aload_n 0, 1) := dk_42 (dk_at dksX5_nanos_0 5 rfl rfl)
theorem dX5_nanos_6 : decode cX5_nanos 6 = .ok (.iload_n 3, 1) := dk_29 (dk_at dksX5_nanos_0 6 rfl rfl)
theorem dX5_nanos_7 : decode cX5_nanos 7 = .ok (.invokevirtual 40, 3) := dk_182 0 40 (dk_at dksX5_nanos_0 7 rfl rfl)
theorem dX5_nanos_10 : decode cX5_nanos 10 = .ok (.ifCond .ne 5, 3) := dk_154 0 5 (dk_at dksX5_nanos_0 10 rfl rfl)
theorem dX5_nanos_13 : decode cX5_nanos 13 = .ok (.iconst 0, 1) := dk_3 (dk_at dksX5_nanos_0 13 rfl rfl)
theorem dX5_nanos_14 : decode cX5_nanos 14 = .ok (.ireturn, 1) := dk_172 (dk_at dksX5_nanos_0 14 rfl rfl)
theorem dX5_nanos_15 : decode cX5_nanos 15 = .ok (.aload_n 0, 1) := dk_42 (dk_at dksX5_nanos_0 15 rfl rfl)
theorem dX5_nanos_16 : decode cX5_nanos 16 = .ok (.iload_n 3, 1) := dk_29 (dk_at dksX5_nanos_0 16 rfl rfl)
theorem dX5_nanos_17 : decode cX5_nanos 17 = .ok (.aload_n 0, 1) := dk_42 (dk_at dksX5_nanos_0 17 rfl rfl)
theorem dX5_nanos_18 : decode cX5_nanos 18 = .ok (.getfield 7, 3) := dk_180 0 7 (dk_at dksX5_nanos_0 18 rfl rfl)
theorem dX5_nanos_21 : decode cX5_nanos 21 = .ok (.iload_n 3, 1) := dk_29 (dk_at dksX5_nanos_0 21 rfl rfl)
theorem dX5_nanos_22 : decode cX5_nanos 22 = .ok (.laload, 1) := dk_47 (dk_at dksX5_nanos_0 22 rfl rfl)
theorem dX5_nanos_23 : decode cX5_nanos 23 = .ok (.aload_n 0, 1) := dk_42 (dk_at dksX5_nanos_0 23 rfl rfl)
theorem dX5_nanos_24 : decode cX5_nanos 24 = .ok (.getfield 13, 3) := dk_180 0 13 (dk_at dksX5_nanos_1 0 rfl rfl)
theorem dX5_nanos_27 : decode cX5_nanos 27 = .ok (.iload_n 3, 1) := dk_29 (dk_at dksX5_nanos_1 3 rfl rfl)
theorem dX5_nanos_28 : decode cX5_nanos 28 = .ok (.laload, 1) := dk_47 (dk_at dksX5_nanos_1 4 rfl rfl)
theorem dX5_nanos_29 : decode cX5_nanos 29 = .ok (.iload_n 2, 1) := dk_28 (dk_at dksX5_nanos_1 5 rfl rfl)
theorem dX5_nanos_30 : decode cX5_nanos 30 = .ok (.i2l, 1) := dk_133 (dk_at dksX5_nanos_1 6 rfl rfl)
theorem dX5_nanos_31 : decode cX5_nanos 31 = .ok (.ladd, 1) := dk_97 (dk_at dksX5_nanos_1 7 rfl rfl)
theorem dX5_nanos_32 : decode cX5_nanos 32 = .ok (.invokevirtual 36, 3) := dk_182 0 36 (dk_at dksX5_nanos_1 8 rfl rfl)
theorem dX5_nanos_35 : decode cX5_nanos 35 = .ok (.iconst 1, 1) := dk_4 (dk_at dksX5_nanos_1 11 rfl rfl)
theorem dX5_nanos_36 : decode cX5_nanos 36 = .ok (.ireturn, 1) := dk_172 (dk_at dksX5_nanos_1 12 rfl rfl)
abbrev cX5_ofMilli : ByteArray := prog_6_method_11_code
def yX5_ofMilli : MethodName := ⟨RX5, "ofMilli", "(III)V"⟩
def dkwX5_ofMilli_2 : List UInt8 := [22, 8, 20, 0, 44, 105, 182, 0, 36, 177]
abbrev dktX5_ofMilli_2 : List UInt8 := dkwX5_ofMilli_2 ++ []
def dkwX5_ofMilli_1 : List UInt8 := [55, 8, 22, 8, 9, 148, 156, 0, 11, 22, 8, 20, 0, 46, 97, 55, 8, 42, 27, 184, 0, 28, 22, 6]
abbrev dktX5_ofMilli_1 : List UInt8 := dkwX5_ofMilli_1 ++ dktX5_ofMilli_2
def dkwX5_ofMilli_0 : List UInt8 := [28, 29, 184, 0, 32, 55, 4, 22, 4, 20, 0, 46, 184, 0, 20, 55, 6, 22, 4, 20, 0, 46, 113]
abbrev dktX5_ofMilli_0 : List UInt8 := dkwX5_ofMilli_0 ++ dktX5_ofMilli_1
theorem dksX5_ofMilli_0 : cX5_ofMilli.data.toList.drop 0 = dktX5_ofMilli_0 := by decide +kernel
theorem dksX5_ofMilli_1 : cX5_ofMilli.data.toList.drop 23 = dktX5_ofMilli_1 := dk_seg dksX5_ofMilli_0 23 rfl rfl
theorem dksX5_ofMilli_2 : cX5_ofMilli.data.toList.drop 47 = dktX5_ofMilli_2 := dk_seg dksX5_ofMilli_1 24 rfl rfl
theorem dX5_ofMilli_0 : decode cX5_ofMilli 0 = .ok (.iload_n 2, 1) := dk_28 (dk_at dksX5_ofMilli_0 0 rfl rfl)
theorem dX5_ofMilli_1 : decode cX5_ofMilli 1 = .ok (.iload_n 3, 1) := dk_29 (dk_at dksX5_ofMilli_0 1 rfl rfl)
theorem dX5_ofMilli_2 : decode cX5_ofMilli 2 = .ok (.invokestatic 32, 3) := dk_184 0 32 (dk_at dksX5_ofMilli_0 2 rfl rfl)
theorem dX5_ofMilli_5 : decode cX5_ofMilli 5 = .ok (.lstore 4, 2) := dk_55 4 (dk_at dksX5_ofMilli_0 5 rfl rfl)
theorem dX5_ofMilli_7 : decode cX5_ofMilli 7 = .ok (.lload 4, 2) := dk_22 4 (dk_at dksX5_ofMilli_0 7 rfl rfl)
theorem dX5_ofMilli_9 : decode cX5_ofMilli 9 = .ok (.ldc2_w 46, 3) := dk_20 0 46 (dk_at dksX5_ofMilli_0 9 rfl rfl)
theorem dX5_ofMilli_12 : decode cX5_ofMilli 12 = .ok (.invokestatic 20, 3) := dk_184 0 20 (dk_at dksX5_ofMilli_0 12 rfl rfl)
theorem dX5_ofMilli_15 : decode cX5_ofMilli 15 = .ok (.lstore 6, 2) := dk_55 6 (dk_at dksX5_ofMilli_0 15 rfl rfl)
theorem dX5_ofMilli_17 : decode cX5_ofMilli 17 = .ok (.lload 4, 2) := dk_22 4 (dk_at dksX5_ofMilli_0 17 rfl rfl)
theorem dX5_ofMilli_19 : decode cX5_ofMilli 19 = .ok (.ldc2_w 46, 3) := dk_20 0 46 (dk_at dksX5_ofMilli_0 19 rfl rfl)
theorem dX5_ofMilli_22 : decode cX5_ofMilli 22 = .ok (.lrem, 1) := dk_113 (dk_at dksX5_ofMilli_0 22 rfl rfl)
theorem dX5_ofMilli_23 : decode cX5_ofMilli 23 = .ok (.lstore 8, 2) := dk_55 8 (dk_at dksX5_ofMilli_1 0 rfl rfl)
theorem dX5_ofMilli_25 : decode cX5_ofMilli 25 = .ok (.lload 8, 2) := dk_22 8 (dk_at dksX5_ofMilli_1 2 rfl rfl)
theorem dX5_ofMilli_27 : decode cX5_ofMilli 27 = .ok (.lconst 0, 1) := dk_9 (dk_at dksX5_ofMilli_1 4 rfl rfl)
theorem dX5_ofMilli_28 : decode cX5_ofMilli 28 = .ok (.lcmp, 1) := dk_148 (dk_at dksX5_ofMilli_1 5 rfl rfl)
theorem dX5_ofMilli_29 : decode cX5_ofMilli 29 = .ok (.ifCond .ge 11, 3) := dk_156 0 11 (dk_at dksX5_ofMilli_1 6 rfl rfl)
theorem dX5_ofMilli_32 : decode cX5_ofMilli 32 = .ok (.lload 8, 2) := dk_22 8 (dk_at dksX5_ofMilli_1 9 rfl rfl)
theorem dX5_ofMilli_34 : decode cX5_ofMilli 34 = .ok (.ldc2_w 46, 3) := dk_20 0 46 (dk_at dksX5_ofMilli_1 11 rfl rfl)
theorem dX5_ofMilli_37 : decode cX5_ofMilli 37 = .ok (.ladd, 1) := dk_97 (dk_at dksX5_ofMilli_1 14 rfl rfl)
theorem dX5_ofMilli_38 : decode cX5_ofMilli 38 = .ok (.lstore 8, 2) := dk_55 8 (dk_at dksX5_ofMilli_1 15 rfl rfl)
theorem dX5_ofMilli_40 : decode cX5_ofMilli 40 = .ok (.aload_n 0, 1) := dk_42 (dk_at dksX5_ofMilli_1 17 rfl rfl)
theorem dX5_ofMilli_41 : decode cX5_ofMilli 41 = .ok (.iload_n 1, 1) := dk_27 (dk_at dksX5_ofMilli_1 18 rfl rfl)
theorem dX5_ofMilli_42 : decode cX5_ofMilli 42 = .ok (.invokestatic 28, 3) := dk_184 0 28 (dk_at dksX5_ofMilli_1 19 rfl rfl)
theorem dX5_ofMilli_45 : decode cX5_ofMilli 45 = .ok (.lload 6, 2) := dk_22 6 (dk_at dksX5_ofMilli_1 22 rfl rfl)
theorem dX5_ofMilli_47 : decode cX5_ofMilli 47 = .ok (.lload 8, 2) := dk_22 8 (dk_at dksX5_ofMilli_2 0 rfl rfl)
theorem dX5_ofMilli_49 : decode cX5_ofMilli 49 = .ok (.ldc2_w 44, 3) := dk_20 0 44 (dk_at dksX5_ofMilli_2 2 rfl rfl)
theorem dX5_ofMilli_52 : decode cX5_ofMilli 52 = .ok (.lmul, 1) := dk_105 (dk_at dksX5_ofMilli_2 5 rfl rfl)
theorem dX5_ofMilli_53 : decode cX5_ofMilli 53 = .ok (.invokevirtual 36, 3) := dk_182 0 36 (dk_at dksX5_ofMilli_2 6 rfl rfl)
theorem dX5_ofMilli_56 : decode cX5_ofMilli 56 = .ok (.return_, 1) := dk_177 (dk_at dksX5_ofMilli_2 9 rfl rfl)
abbrev cX5_whole : ByteArray := prog_6_method_12_code
def yX5_whole : MethodName := ⟨RX5, "whole", "(I)J"⟩
def dkwX5_whole_0 : List UInt8 := [42, 180, 0, 7, 27, 184, 0, 28, 47, 173]
abbrev dktX5_whole_0 : List UInt8 := dkwX5_whole_0 ++ []
theorem dksX5_whole_0 : cX5_whole.data.toList.drop 0 = dktX5_whole_0 := by decide +kernel
theorem dX5_whole_0 : decode cX5_whole 0 = .ok (.aload_n 0, 1) := dk_42 (dk_at dksX5_whole_0 0 rfl rfl)
theorem dX5_whole_1 : decode cX5_whole 1 = .ok (.getfield 7, 3) := dk_180 0 7 (dk_at dksX5_whole_0 1 rfl rfl)
theorem dX5_whole_4 : decode cX5_whole 4 = .ok (.iload_n 1, 1) := dk_27 (dk_at dksX5_whole_0 4 rfl rfl)
theorem dX5_whole_5 : decode cX5_whole 5 = .ok (.invokestatic 28, 3) := dk_184 0 28 (dk_at dksX5_whole_0 5 rfl rfl)
theorem dX5_whole_8 : decode cX5_whole 8 = .ok (.laload, 1) := dk_47 (dk_at dksX5_whole_0 8 rfl rfl)
theorem dX5_whole_9 : decode cX5_whole 9 = .ok (.lreturn, 1) := dk_173 (dk_at dksX5_whole_0 9 rfl rfl)
abbrev cX5_nano : ByteArray := prog_6_method_13_code
def yX5_nano : MethodName := ⟨RX5, "nano", "(I)I"⟩
def dkwX5_nano_0 : List UInt8 := [42, 180, 0, 13, 27, 184, 0, 28, 47, 136, 172]
abbrev dktX5_nano_0 : List UInt8 := dkwX5_nano_0 ++ []
theorem dksX5_nano_0 : cX5_nano.data.toList.drop 0 = dktX5_nano_0 := by decide +kernel
theorem dX5_nano_0 : decode cX5_nano 0 = .ok (.aload_n 0, 1) := dk_42 (dk_at dksX5_nano_0 0 rfl rfl)
theorem dX5_nano_1 : decode cX5_nano 1 = .ok (.getfield 13, 3) := dk_180 0 13 (dk_at dksX5_nano_0 1 rfl rfl)
theorem dX5_nano_4 : decode cX5_nano 4 = .ok (.iload_n 1, 1) := dk_27 (dk_at dksX5_nano_0 4 rfl rfl)
theorem dX5_nano_5 : decode cX5_nano 5 = .ok (.invokestatic 28, 3) := dk_184 0 28 (dk_at dksX5_nano_0 5 rfl rfl)
theorem dX5_nano_8 : decode cX5_nano 8 = .ok (.laload, 1) := dk_47 (dk_at dksX5_nano_0 8 rfl rfl)
theorem dX5_nano_9 : decode cX5_nano 9 = .ok (.l2i, 1) := dk_136 (dk_at dksX5_nano_0 9 rfl rfl)
theorem dX5_nano_10 : decode cX5_nano 10 = .ok (.ireturn, 1) := dk_172 (dk_at dksX5_nano_0 10 rfl rfl)
abbrev cX5_before : ByteArray := prog_6_method_14_code
def yX5_before : MethodName := ⟨RX5, "before", "()Z"⟩
def dkwX5_before_0 : List UInt8 := [42, 182, 0, 48, 156, 0, 7, 4, 167, 0, 4, 3, 172]
abbrev dktX5_before_0 : List UInt8 := dkwX5_before_0 ++ []
theorem dksX5_before_0 : cX5_before.data.toList.drop 0 = dktX5_before_0 := by decide +kernel
theorem dX5_before_0 : decode cX5_before 0 = .ok (.aload_n 0, 1) := dk_42 (dk_at dksX5_before_0 0 rfl rfl)
theorem dX5_before_1 : decode cX5_before 1 = .ok (.invokevirtual 48, 3) := dk_182 0 48 (dk_at dksX5_before_0 1 rfl rfl)
theorem dX5_before_4 : decode cX5_before 4 = .ok (.ifCond .ge 7, 3) := dk_156 0 7 (dk_at dksX5_before_0 4 rfl rfl)
theorem dX5_before_7 : decode cX5_before 7 = .ok (.iconst 1, 1) := dk_4 (dk_at dksX5_before_0 7 rfl rfl)
theorem dX5_before_8 : decode cX5_before 8 = .ok (.goto 4, 3) := dk_167 0 4 (dk_at dksX5_before_0 8 rfl rfl)
theorem dX5_before_11 : decode cX5_before 11 = .ok (.iconst 0, 1) := dk_3 (dk_at dksX5_before_0 11 rfl rfl)
theorem dX5_before_12 : decode cX5_before 12 = .ok (.ireturn, 1) := dk_172 (dk_at dksX5_before_0 12 rfl rfl)
abbrev cX5_order : ByteArray := prog_6_method_16_code
def yX5_order : MethodName := ⟨RX5, "order", "()I"⟩
def dkwX5_order_3 : List UInt8 := [156, 0, 7, 2, 167, 0, 4, 4, 172, 3, 172]
abbrev dktX5_order_3 : List UInt8 := dkwX5_order_3 ++ []
def dkwX5_order_2 : List UInt8 := [180, 0, 13, 4, 47, 148, 153, 0, 25, 42, 180, 0, 13, 3, 47, 42, 180, 0, 13, 4, 47, 148]
abbrev dktX5_order_2 : List UInt8 := dkwX5_order_2 ++ dktX5_order_3
def dkwX5_order_1 : List UInt8 := [180, 0, 7, 4, 47, 148, 156, 0, 7, 2, 167, 0, 4, 4, 172, 42, 180, 0, 13, 3, 47, 42]
abbrev dktX5_order_1 : List UInt8 := dkwX5_order_1 ++ dktX5_order_2
def dkwX5_order_0 : List UInt8 := [42, 180, 0, 7, 3, 47, 42, 180, 0, 7, 4, 47, 148, 153, 0, 25, 42, 180, 0, 7, 3, 47, 42]
abbrev dktX5_order_0 : List UInt8 := dkwX5_order_0 ++ dktX5_order_1
theorem dksX5_order_0 : cX5_order.data.toList.drop 0 = dktX5_order_0 := by decide +kernel
theorem dksX5_order_1 : cX5_order.data.toList.drop 23 = dktX5_order_1 := dk_seg dksX5_order_0 23 rfl rfl
theorem dksX5_order_2 : cX5_order.data.toList.drop 45 = dktX5_order_2 := dk_seg dksX5_order_1 22 rfl rfl
theorem dksX5_order_3 : cX5_order.data.toList.drop 67 = dktX5_order_3 := dk_seg dksX5_order_2 22 rfl rfl
theorem dX5_order_0 : decode cX5_order 0 = .ok (.aload_n 0, 1) := dk_42 (dk_at dksX5_order_0 0 rfl rfl)
theorem dX5_order_1 : decode cX5_order 1 = .ok (.getfield 7, 3) := dk_180 0 7 (dk_at dksX5_order_0 1 rfl rfl)
theorem dX5_order_4 : decode cX5_order 4 = .ok (.iconst 0, 1) := dk_3 (dk_at dksX5_order_0 4 rfl rfl)
theorem dX5_order_5 : decode cX5_order 5 = .ok (.laload, 1) := dk_47 (dk_at dksX5_order_0 5 rfl rfl)
theorem dX5_order_6 : decode cX5_order 6 = .ok (.aload_n 0, 1) := dk_42 (dk_at dksX5_order_0 6 rfl rfl)
theorem dX5_order_7 : decode cX5_order 7 = .ok (.getfield 7, 3) := dk_180 0 7 (dk_at dksX5_order_0 7 rfl rfl)
theorem dX5_order_10 : decode cX5_order 10 = .ok (.iconst 1, 1) := dk_4 (dk_at dksX5_order_0 10 rfl rfl)
theorem dX5_order_11 : decode cX5_order 11 = .ok (.laload, 1) := dk_47 (dk_at dksX5_order_0 11 rfl rfl)
theorem dX5_order_12 : decode cX5_order 12 = .ok (.lcmp, 1) := dk_148 (dk_at dksX5_order_0 12 rfl rfl)
theorem dX5_order_13 : decode cX5_order 13 = .ok (.ifCond .eq 25, 3) := dk_153 0 25 (dk_at dksX5_order_0 13 rfl rfl)
theorem dX5_order_16 : decode cX5_order 16 = .ok (.aload_n 0, 1) := dk_42 (dk_at dksX5_order_0 16 rfl rfl)
theorem dX5_order_17 : decode cX5_order 17 = .ok (.getfield 7, 3) := dk_180 0 7 (dk_at dksX5_order_0 17 rfl rfl)
theorem dX5_order_20 : decode cX5_order 20 = .ok (.iconst 0, 1) := dk_3 (dk_at dksX5_order_0 20 rfl rfl)
theorem dX5_order_21 : decode cX5_order 21 = .ok (.laload, 1) := dk_47 (dk_at dksX5_order_0 21 rfl rfl)
theorem dX5_order_22 : decode cX5_order 22 = .ok (.aload_n 0, 1) := dk_42 (dk_at dksX5_order_0 22 rfl rfl)
theorem dX5_order_23 : decode cX5_order 23 = .ok (.getfield 7, 3) := dk_180 0 7 (dk_at dksX5_order_1 0 rfl rfl)
theorem dX5_order_26 : decode cX5_order 26 = .ok (.iconst 1, 1) := dk_4 (dk_at dksX5_order_1 3 rfl rfl)
theorem dX5_order_27 : decode cX5_order 27 = .ok (.laload, 1) := dk_47 (dk_at dksX5_order_1 4 rfl rfl)
theorem dX5_order_28 : decode cX5_order 28 = .ok (.lcmp, 1) := dk_148 (dk_at dksX5_order_1 5 rfl rfl)
theorem dX5_order_29 : decode cX5_order 29 = .ok (.ifCond .ge 7, 3) := dk_156 0 7 (dk_at dksX5_order_1 6 rfl rfl)
theorem dX5_order_32 : decode cX5_order 32 = .ok (.iconst (-1), 1) := dk_2 (dk_at dksX5_order_1 9 rfl rfl)
theorem dX5_order_33 : decode cX5_order 33 = .ok (.goto 4, 3) := dk_167 0 4 (dk_at dksX5_order_1 10 rfl rfl)
theorem dX5_order_36 : decode cX5_order 36 = .ok (.iconst 1, 1) := dk_4 (dk_at dksX5_order_1 13 rfl rfl)
theorem dX5_order_37 : decode cX5_order 37 = .ok (.ireturn, 1) := dk_172 (dk_at dksX5_order_1 14 rfl rfl)
theorem dX5_order_38 : decode cX5_order 38 = .ok (.aload_n 0, 1) := dk_42 (dk_at dksX5_order_1 15 rfl rfl)
theorem dX5_order_39 : decode cX5_order 39 = .ok (.getfield 13, 3) := dk_180 0 13 (dk_at dksX5_order_1 16 rfl rfl)
theorem dX5_order_42 : decode cX5_order 42 = .ok (.iconst 0, 1) := dk_3 (dk_at dksX5_order_1 19 rfl rfl)
theorem dX5_order_43 : decode cX5_order 43 = .ok (.laload, 1) := dk_47 (dk_at dksX5_order_1 20 rfl rfl)
theorem dX5_order_44 : decode cX5_order 44 = .ok (.aload_n 0, 1) := dk_42 (dk_at dksX5_order_1 21 rfl rfl)
theorem dX5_order_45 : decode cX5_order 45 = .ok (.getfield 13, 3) := dk_180 0 13 (dk_at dksX5_order_2 0 rfl rfl)
theorem dX5_order_48 : decode cX5_order 48 = .ok (.iconst 1, 1) := dk_4 (dk_at dksX5_order_2 3 rfl rfl)
theorem dX5_order_49 : decode cX5_order 49 = .ok (.laload, 1) := dk_47 (dk_at dksX5_order_2 4 rfl rfl)
theorem dX5_order_50 : decode cX5_order 50 = .ok (.lcmp, 1) := dk_148 (dk_at dksX5_order_2 5 rfl rfl)
theorem dX5_order_51 : decode cX5_order 51 = .ok (.ifCond .eq 25, 3) := dk_153 0 25 (dk_at dksX5_order_2 6 rfl rfl)
theorem dX5_order_54 : decode cX5_order 54 = .ok (.aload_n 0, 1) := dk_42 (dk_at dksX5_order_2 9 rfl rfl)
theorem dX5_order_55 : decode cX5_order 55 = .ok (.getfield 13, 3) := dk_180 0 13 (dk_at dksX5_order_2 10 rfl rfl)
theorem dX5_order_58 : decode cX5_order 58 = .ok (.iconst 0, 1) := dk_3 (dk_at dksX5_order_2 13 rfl rfl)
theorem dX5_order_59 : decode cX5_order 59 = .ok (.laload, 1) := dk_47 (dk_at dksX5_order_2 14 rfl rfl)
theorem dX5_order_60 : decode cX5_order 60 = .ok (.aload_n 0, 1) := dk_42 (dk_at dksX5_order_2 15 rfl rfl)
theorem dX5_order_61 : decode cX5_order 61 = .ok (.getfield 13, 3) := dk_180 0 13 (dk_at dksX5_order_2 16 rfl rfl)
theorem dX5_order_64 : decode cX5_order 64 = .ok (.iconst 1, 1) := dk_4 (dk_at dksX5_order_2 19 rfl rfl)
theorem dX5_order_65 : decode cX5_order 65 = .ok (.laload, 1) := dk_47 (dk_at dksX5_order_2 20 rfl rfl)
theorem dX5_order_66 : decode cX5_order 66 = .ok (.lcmp, 1) := dk_148 (dk_at dksX5_order_2 21 rfl rfl)
theorem dX5_order_67 : decode cX5_order 67 = .ok (.ifCond .ge 7, 3) := dk_156 0 7 (dk_at dksX5_order_3 0 rfl rfl)
theorem dX5_order_70 : decode cX5_order 70 = .ok (.iconst (-1), 1) := dk_2 (dk_at dksX5_order_3 3 rfl rfl)
theorem dX5_order_71 : decode cX5_order 71 = .ok (.goto 4, 3) := dk_167 0 4 (dk_at dksX5_order_3 4 rfl rfl)
theorem dX5_order_74 : decode cX5_order 74 = .ok (.iconst 1, 1) := dk_4 (dk_at dksX5_order_3 7 rfl rfl)
theorem dX5_order_75 : decode cX5_order 75 = .ok (.ireturn, 1) := dk_172 (dk_at dksX5_order_3 8 rfl rfl)
theorem dX5_order_76 : decode cX5_order 76 = .ok (.iconst 0, 1) := dk_3 (dk_at dksX5_order_3 9 rfl rfl)
theorem dX5_order_77 : decode cX5_order 77 = .ok (.ireturn, 1) := dk_172 (dk_at dksX5_order_3 10 rfl rfl)
abbrev cX5_after : ByteArray := prog_6_method_15_code
def yX5_after : MethodName := ⟨RX5, "after", "()Z"⟩
def dkwX5_after_0 : List UInt8 := [42, 182, 0, 48, 158, 0, 7, 4, 167, 0, 4, 3, 172]
abbrev dktX5_after_0 : List UInt8 := dkwX5_after_0 ++ []
theorem dksX5_after_0 : cX5_after.data.toList.drop 0 = dktX5_after_0 := by decide +kernel
theorem dX5_after_0 : decode cX5_after 0 = .ok (.aload_n 0, 1) := dk_42 (dk_at dksX5_after_0 0 rfl rfl)
theorem dX5_after_1 : decode cX5_after 1 = .ok (.invokevirtual 48, 3) := dk_182 0 48 (dk_at dksX5_after_0 1 rfl rfl)
theorem dX5_after_4 : decode cX5_after 4 = .ok (.ifCond .le 7, 3) := dk_158 0 7 (dk_at dksX5_after_0 4 rfl rfl)
theorem dX5_after_7 : decode cX5_after 7 = .ok (.iconst 1, 1) := dk_4 (dk_at dksX5_after_0 7 rfl rfl)
theorem dX5_after_8 : decode cX5_after 8 = .ok (.goto 4, 3) := dk_167 0 4 (dk_at dksX5_after_0 8 rfl rfl)
theorem dX5_after_11 : decode cX5_after 11 = .ok (.iconst 0, 1) := dk_3 (dk_at dksX5_after_0 11 rfl rfl)
theorem dX5_after_12 : decode cX5_after 12 = .ok (.ireturn, 1) := dk_172 (dk_at dksX5_after_0 12 rfl rfl)
abbrev cX5_milli : ByteArray := prog_6_method_17_code
def yX5_milli : MethodName := ⟨RX5, "milli", "(I)J"⟩
def dkwX5_milli_2 : List UInt8 := [47, 20, 0, 44, 109, 97, 173]
abbrev dktX5_milli_2 : List UInt8 := dkwX5_milli_2 ++ []
def dkwX5_milli_1 : List UInt8 := [20, 0, 54, 148, 156, 0, 5, 9, 173, 42, 180, 0, 7, 28, 47, 20, 0, 46, 105, 42, 180, 0, 13, 28]
abbrev dktX5_milli_1 : List UInt8 := dkwX5_milli_1 ++ dktX5_milli_2
def dkwX5_milli_0 : List UInt8 := [27, 184, 0, 28, 61, 42, 180, 0, 7, 28, 47, 20, 0, 52, 148, 157, 0, 16, 42, 180, 0, 7, 28, 47]
abbrev dktX5_milli_0 : List UInt8 := dkwX5_milli_0 ++ dktX5_milli_1
theorem dksX5_milli_0 : cX5_milli.data.toList.drop 0 = dktX5_milli_0 := by decide +kernel
theorem dksX5_milli_1 : cX5_milli.data.toList.drop 24 = dktX5_milli_1 := dk_seg dksX5_milli_0 24 rfl rfl
theorem dksX5_milli_2 : cX5_milli.data.toList.drop 48 = dktX5_milli_2 := dk_seg dksX5_milli_1 24 rfl rfl
theorem dX5_milli_0 : decode cX5_milli 0 = .ok (.iload_n 1, 1) := dk_27 (dk_at dksX5_milli_0 0 rfl rfl)
theorem dX5_milli_1 : decode cX5_milli 1 = .ok (.invokestatic 28, 3) := dk_184 0 28 (dk_at dksX5_milli_0 1 rfl rfl)
theorem dX5_milli_4 : decode cX5_milli 4 = .ok (.istore_n 2, 1) := dk_61 (dk_at dksX5_milli_0 4 rfl rfl)
theorem dX5_milli_5 : decode cX5_milli 5 = .ok (.aload_n 0, 1) := dk_42 (dk_at dksX5_milli_0 5 rfl rfl)
theorem dX5_milli_6 : decode cX5_milli 6 = .ok (.getfield 7, 3) := dk_180 0 7 (dk_at dksX5_milli_0 6 rfl rfl)
theorem dX5_milli_9 : decode cX5_milli 9 = .ok (.iload_n 2, 1) := dk_28 (dk_at dksX5_milli_0 9 rfl rfl)
theorem dX5_milli_10 : decode cX5_milli 10 = .ok (.laload, 1) := dk_47 (dk_at dksX5_milli_0 10 rfl rfl)
theorem dX5_milli_11 : decode cX5_milli 11 = .ok (.ldc2_w 52, 3) := dk_20 0 52 (dk_at dksX5_milli_0 11 rfl rfl)
theorem dX5_milli_14 : decode cX5_milli 14 = .ok (.lcmp, 1) := dk_148 (dk_at dksX5_milli_0 14 rfl rfl)
theorem dX5_milli_15 : decode cX5_milli 15 = .ok (.ifCond .gt 16, 3) := dk_157 0 16 (dk_at dksX5_milli_0 15 rfl rfl)
theorem dX5_milli_18 : decode cX5_milli 18 = .ok (.aload_n 0, 1) := dk_42 (dk_at dksX5_milli_0 18 rfl rfl)
theorem dX5_milli_19 : decode cX5_milli 19 = .ok (.getfield 7, 3) := dk_180 0 7 (dk_at dksX5_milli_0 19 rfl rfl)
theorem dX5_milli_22 : decode cX5_milli 22 = .ok (.iload_n 2, 1) := dk_28 (dk_at dksX5_milli_0 22 rfl rfl)
theorem dX5_milli_23 : decode cX5_milli 23 = .ok (.laload, 1) := dk_47 (dk_at dksX5_milli_0 23 rfl rfl)
theorem dX5_milli_24 : decode cX5_milli 24 = .ok (.ldc2_w 54, 3) := dk_20 0 54 (dk_at dksX5_milli_1 0 rfl rfl)
theorem dX5_milli_27 : decode cX5_milli 27 = .ok (.lcmp, 1) := dk_148 (dk_at dksX5_milli_1 3 rfl rfl)
theorem dX5_milli_28 : decode cX5_milli 28 = .ok (.ifCond .ge 5, 3) := dk_156 0 5 (dk_at dksX5_milli_1 4 rfl rfl)
theorem dX5_milli_31 : decode cX5_milli 31 = .ok (.lconst 0, 1) := dk_9 (dk_at dksX5_milli_1 7 rfl rfl)
theorem dX5_milli_32 : decode cX5_milli 32 = .ok (.lreturn, 1) := dk_173 (dk_at dksX5_milli_1 8 rfl rfl)
theorem dX5_milli_33 : decode cX5_milli 33 = .ok (.aload_n 0, 1) := dk_42 (dk_at dksX5_milli_1 9 rfl rfl)
theorem dX5_milli_34 : decode cX5_milli 34 = .ok (.getfield 7, 3) := dk_180 0 7 (dk_at dksX5_milli_1 10 rfl rfl)
theorem dX5_milli_37 : decode cX5_milli 37 = .ok (.iload_n 2, 1) := dk_28 (dk_at dksX5_milli_1 13 rfl rfl)
theorem dX5_milli_38 : decode cX5_milli 38 = .ok (.laload, 1) := dk_47 (dk_at dksX5_milli_1 14 rfl rfl)
theorem dX5_milli_39 : decode cX5_milli 39 = .ok (.ldc2_w 46, 3) := dk_20 0 46 (dk_at dksX5_milli_1 15 rfl rfl)
theorem dX5_milli_42 : decode cX5_milli 42 = .ok (.lmul, 1) := dk_105 (dk_at dksX5_milli_1 18 rfl rfl)
theorem dX5_milli_43 : decode cX5_milli 43 = .ok (.aload_n 0, 1) := dk_42 (dk_at dksX5_milli_1 19 rfl rfl)
theorem dX5_milli_44 : decode cX5_milli 44 = .ok (.getfield 13, 3) := dk_180 0 13 (dk_at dksX5_milli_1 20 rfl rfl)
theorem dX5_milli_47 : decode cX5_milli 47 = .ok (.iload_n 2, 1) := dk_28 (dk_at dksX5_milli_1 23 rfl rfl)
theorem dX5_milli_48 : decode cX5_milli 48 = .ok (.laload, 1) := dk_47 (dk_at dksX5_milli_2 0 rfl rfl)
theorem dX5_milli_49 : decode cX5_milli 49 = .ok (.ldc2_w 44, 3) := dk_20 0 44 (dk_at dksX5_milli_2 1 rfl rfl)
theorem dX5_milli_52 : decode cX5_milli 52 = .ok (.ldiv, 1) := dk_109 (dk_at dksX5_milli_2 4 rfl rfl)
theorem dX5_milli_53 : decode cX5_milli 53 = .ok (.ladd, 1) := dk_97 (dk_at dksX5_milli_2 5 rfl rfl)
theorem dX5_milli_54 : decode cX5_milli 54 = .ok (.lreturn, 1) := dk_173 (dk_at dksX5_milli_2 6 rfl rfl)
theorem q14 : (Jvm.Cond.initialized "InstantDeskModel") ∈ lw_all := lw_g (lw_at lw_m1 10 rfl) rfl
theorem q261 : (Jvm.Cond.instantiable "InstantDeskModel" (2 : Nat)) ∈ lw_all := lw_g (lw_at lw_m2 17 rfl) rfl
theorem q263 : (Jvm.Cond.instanceMethod ({ cls := "InstantDeskModel", name := "<init>", desc := "()V" } : Jvm.MethodName)) ∈ lw_all := lw_g (lw_at lw_m2 19 rfl) rfl
theorem q264 : (Jvm.Cond.code ({ cls := "InstantDeskModel", name := "<init>", desc := "()V" } : Jvm.MethodName) prog_6_method_1_code (1 : Nat) (Option.none : Option Jvm.ClassFile.FieldType)) ∈ lw_all := lw_g (lw_at lw_m2 20 rfl) rfl
theorem q265 : (Jvm.Cond.methodLink "InstantDeskModel" (1 : Nat) ({ cls := "java/lang/Object", name := "<init>", desc := "()V" } : Jvm.MethodName)) ∈ lw_all := lw_g (lw_at lw_m2 21 rfl) rfl
theorem q266 : (Jvm.Cond.fieldLink "InstantDeskModel" (7 : Nat) "InstantDeskModel" "whole" "[J") ∈ lw_all := lw_g (lw_at lw_m2 22 rfl) rfl
theorem q267 : (Jvm.Cond.fieldLink "InstantDeskModel" (13 : Nat) "InstantDeskModel" "part" "[J") ∈ lw_all := lw_g (lw_at lw_m2 23 rfl) rfl
theorem q268 : (Jvm.Cond.laysFinal "InstantDeskModel" "InstantDeskModel" "whole" "[J") ∈ lw_all := lw_g (lw_at lw_m2 24 rfl) rfl
theorem q269 : (Jvm.Cond.soleField "InstantDeskModel" "whole") ∈ lw_all := lw_g (lw_at lw_m2 25 rfl) rfl
theorem q270 : (Jvm.Cond.laysFinal "InstantDeskModel" "InstantDeskModel" "part" "[J") ∈ lw_all := lw_g (lw_at lw_m2 26 rfl) rfl
theorem q271 : (Jvm.Cond.soleField "InstantDeskModel" "part") ∈ lw_all := lw_g (lw_at lw_m2 27 rfl) rfl
theorem q272 : (Jvm.Cond.superclass "InstantDeskModel" "java/lang/Object") ∈ lw_all := lw_g (lw_at lw_m2 28 rfl) rfl
theorem q275 : (Jvm.Cond.instanceMethod ({ cls := "InstantDeskModel", name := "set", desc := "(IIII)V" } : Jvm.MethodName)) ∈ lw_all := lw_g (lw_at lw_m2 31 rfl) rfl
theorem q276 : (Jvm.Cond.selects "InstantDeskModel" ({ cls := "InstantDeskModel", name := "set", desc := "(IIII)V" } : Jvm.MethodName) ({ cls := "InstantDeskModel", name := "set", desc := "(IIII)V" } : Jvm.MethodName)) ∈ lw_all := lw_g (lw_at lw_m2 32 rfl) rfl
theorem q277 : (Jvm.Cond.code ({ cls := "InstantDeskModel", name := "set", desc := "(IIII)V" } : Jvm.MethodName) prog_6_method_7_code (5 : Nat) (Option.none : Option Jvm.ClassFile.FieldType)) ∈ lw_all := lw_g (lw_at lw_m2 33 rfl) rfl
theorem q278 : (Jvm.Cond.methodLink "InstantDeskModel" (28 : Nat) ({ cls := "InstantDeskModel", name := "index", desc := "(I)I" } : Jvm.MethodName)) ∈ lw_all := lw_g (lw_at lw_m2 34 rfl) rfl
theorem q279 : (Jvm.Cond.static ({ cls := "InstantDeskModel", name := "index", desc := "(I)I" } : Jvm.MethodName)) ∈ lw_all := lw_g (lw_at lw_m2 35 rfl) rfl
theorem q280 : (Jvm.Cond.code ({ cls := "InstantDeskModel", name := "index", desc := "(I)I" } : Jvm.MethodName) prog_6_method_4_code (1 : Nat) (Option.some Jvm.ClassFile.FieldType.int)) ∈ lw_all := lw_g (lw_at lw_m2 36 rfl) rfl
theorem q281 : (Jvm.Cond.methodLink "InstantDeskModel" (32 : Nat) ({ cls := "InstantDeskModel", name := "join", desc := "(II)J" } : Jvm.MethodName)) ∈ lw_all := lw_g (lw_at lw_m2 37 rfl) rfl
theorem q282 : (Jvm.Cond.static ({ cls := "InstantDeskModel", name := "join", desc := "(II)J" } : Jvm.MethodName)) ∈ lw_all := lw_g (lw_at lw_m2 38 rfl) rfl
theorem q283 : (Jvm.Cond.code ({ cls := "InstantDeskModel", name := "join", desc := "(II)J" } : Jvm.MethodName) prog_6_method_3_code (4 : Nat) (Option.some Jvm.ClassFile.FieldType.long)) ∈ lw_all := lw_g (lw_at lw_m2 39 rfl) rfl
theorem q284 : (Jvm.Cond.constantLong "InstantDeskModel" (16 : Nat) (4294967296 : Int64)) ∈ lw_all := lw_g (lw_at lw_m2 40 rfl) rfl
theorem q285 : (Jvm.Cond.constantLong "InstantDeskModel" (26 : Nat) (31000000000000000 : Int64)) ∈ lw_all := lw_g (lw_at lw_m2 41 rfl) rfl
theorem q286 : (Jvm.Cond.methodLink "InstantDeskModel" (36 : Nat) ({ cls := "InstantDeskModel", name := "put", desc := "(IJJ)V" } : Jvm.MethodName)) ∈ lw_all := lw_g (lw_at lw_m2 42 rfl) rfl
theorem q287 : (Jvm.Cond.privateMethod ({ cls := "InstantDeskModel", name := "put", desc := "(IJJ)V" } : Jvm.MethodName)) ∈ lw_tbl := lw_at lw_m2 43 rfl
theorem q288 : (Jvm.Cond.instanceMethod ({ cls := "InstantDeskModel", name := "put", desc := "(IJJ)V" } : Jvm.MethodName)) ∈ lw_all := lw_g (lw_at lw_m2 44 rfl) rfl
theorem q289 : (Jvm.Cond.code ({ cls := "InstantDeskModel", name := "put", desc := "(IJJ)V" } : Jvm.MethodName) prog_6_method_5_code (8 : Nat) (Option.none : Option Jvm.ClassFile.FieldType)) ∈ lw_all := lw_g (lw_at lw_m2 45 rfl) rfl
theorem q290 : (Jvm.Cond.constantLong "InstantDeskModel" (18 : Nat) (1000000000 : Int64)) ∈ lw_all := lw_g (lw_at lw_m2 46 rfl) rfl
theorem q291 : (Jvm.Cond.methodLink "InstantDeskModel" (20 : Nat) ({ cls := "InstantDeskModel", name := "floor", desc := "(JJ)J" } : Jvm.MethodName)) ∈ lw_all := lw_g (lw_at lw_m2 47 rfl) rfl
theorem q292 : (Jvm.Cond.static ({ cls := "InstantDeskModel", name := "floor", desc := "(JJ)J" } : Jvm.MethodName)) ∈ lw_all := lw_g (lw_at lw_m2 48 rfl) rfl
theorem q293 : (Jvm.Cond.code ({ cls := "InstantDeskModel", name := "floor", desc := "(JJ)J" } : Jvm.MethodName) prog_6_method_2_code (6 : Nat) (Option.some Jvm.ClassFile.FieldType.long)) ∈ lw_all := lw_g (lw_at lw_m2 49 rfl) rfl
theorem q295 : (Jvm.Cond.instanceMethod ({ cls := "InstantDeskModel", name := "seconds", desc := "(II)Z" } : Jvm.MethodName)) ∈ lw_all := lw_g (lw_at lw_m2 51 rfl) rfl
theorem q296 : (Jvm.Cond.selects "InstantDeskModel" ({ cls := "InstantDeskModel", name := "seconds", desc := "(II)Z" } : Jvm.MethodName) ({ cls := "InstantDeskModel", name := "seconds", desc := "(II)Z" } : Jvm.MethodName)) ∈ lw_all := lw_g (lw_at lw_m2 52 rfl) rfl
theorem q297 : (Jvm.Cond.code ({ cls := "InstantDeskModel", name := "seconds", desc := "(II)Z" } : Jvm.MethodName) prog_6_method_8_code (4 : Nat) (Option.some Jvm.ClassFile.FieldType.boolean)) ∈ lw_all := lw_g (lw_at lw_m2 53 rfl) rfl
theorem q298 : (Jvm.Cond.methodLink "InstantDeskModel" (40 : Nat) ({ cls := "InstantDeskModel", name := "open", desc := "(I)Z" } : Jvm.MethodName)) ∈ lw_all := lw_g (lw_at lw_m2 54 rfl) rfl
theorem q299 : (Jvm.Cond.privateMethod ({ cls := "InstantDeskModel", name := "open", desc := "(I)Z" } : Jvm.MethodName)) ∈ lw_tbl := lw_at lw_m2 55 rfl
theorem q300 : (Jvm.Cond.instanceMethod ({ cls := "InstantDeskModel", name := "open", desc := "(I)Z" } : Jvm.MethodName)) ∈ lw_all := lw_g (lw_at lw_m2 56 rfl) rfl
theorem q301 : (Jvm.Cond.code ({ cls := "InstantDeskModel", name := "open", desc := "(I)Z" } : Jvm.MethodName) prog_6_method_6_code (2 : Nat) (Option.some Jvm.ClassFile.FieldType.boolean)) ∈ lw_all := lw_g (lw_at lw_m2 57 rfl) rfl
theorem q302 : (Jvm.Cond.constantLong "InstantDeskModel" (24 : Nat) (-31000000000000000 : Int64)) ∈ lw_all := lw_g (lw_at lw_m2 58 rfl) rfl
theorem q304 : (Jvm.Cond.instanceMethod ({ cls := "InstantDeskModel", name := "millis", desc := "(II)Z" } : Jvm.MethodName)) ∈ lw_all := lw_g (lw_at lw_m2 60 rfl) rfl
theorem q305 : (Jvm.Cond.selects "InstantDeskModel" ({ cls := "InstantDeskModel", name := "millis", desc := "(II)Z" } : Jvm.MethodName) ({ cls := "InstantDeskModel", name := "millis", desc := "(II)Z" } : Jvm.MethodName)) ∈ lw_all := lw_g (lw_at lw_m2 61 rfl) rfl
theorem q306 : (Jvm.Cond.code ({ cls := "InstantDeskModel", name := "millis", desc := "(II)Z" } : Jvm.MethodName) prog_6_method_9_code (4 : Nat) (Option.some Jvm.ClassFile.FieldType.boolean)) ∈ lw_all := lw_g (lw_at lw_m2 62 rfl) rfl
theorem q307 : (Jvm.Cond.constantLong "InstantDeskModel" (44 : Nat) (1000000 : Int64)) ∈ lw_all := lw_g (lw_at lw_m2 63 rfl) rfl
theorem q309 : (Jvm.Cond.instanceMethod ({ cls := "InstantDeskModel", name := "nanos", desc := "(II)Z" } : Jvm.MethodName)) ∈ lw_all := lw_g (lw_at lw_m2 65 rfl) rfl
theorem q310 : (Jvm.Cond.selects "InstantDeskModel" ({ cls := "InstantDeskModel", name := "nanos", desc := "(II)Z" } : Jvm.MethodName) ({ cls := "InstantDeskModel", name := "nanos", desc := "(II)Z" } : Jvm.MethodName)) ∈ lw_all := lw_g (lw_at lw_m2 66 rfl) rfl
theorem q311 : (Jvm.Cond.code ({ cls := "InstantDeskModel", name := "nanos", desc := "(II)Z" } : Jvm.MethodName) prog_6_method_10_code (4 : Nat) (Option.some Jvm.ClassFile.FieldType.boolean)) ∈ lw_all := lw_g (lw_at lw_m2 67 rfl) rfl
theorem q313 : (Jvm.Cond.instanceMethod ({ cls := "InstantDeskModel", name := "ofMilli", desc := "(III)V" } : Jvm.MethodName)) ∈ lw_all := lw_g (lw_at lw_m2 69 rfl) rfl
theorem q314 : (Jvm.Cond.selects "InstantDeskModel" ({ cls := "InstantDeskModel", name := "ofMilli", desc := "(III)V" } : Jvm.MethodName) ({ cls := "InstantDeskModel", name := "ofMilli", desc := "(III)V" } : Jvm.MethodName)) ∈ lw_all := lw_g (lw_at lw_m2 70 rfl) rfl
theorem q315 : (Jvm.Cond.code ({ cls := "InstantDeskModel", name := "ofMilli", desc := "(III)V" } : Jvm.MethodName) prog_6_method_11_code (10 : Nat) (Option.none : Option Jvm.ClassFile.FieldType)) ∈ lw_all := lw_g (lw_at lw_m2 71 rfl) rfl
theorem q316 : (Jvm.Cond.constantLong "InstantDeskModel" (46 : Nat) (1000 : Int64)) ∈ lw_all := lw_g (lw_at lw_m2 72 rfl) rfl
theorem q318 : (Jvm.Cond.instanceMethod ({ cls := "InstantDeskModel", name := "whole", desc := "(I)J" } : Jvm.MethodName)) ∈ lw_all := lw_g (lw_at lw_m2 74 rfl) rfl
theorem q319 : (Jvm.Cond.selects "InstantDeskModel" ({ cls := "InstantDeskModel", name := "whole", desc := "(I)J" } : Jvm.MethodName) ({ cls := "InstantDeskModel", name := "whole", desc := "(I)J" } : Jvm.MethodName)) ∈ lw_all := lw_g (lw_at lw_m2 75 rfl) rfl
theorem q320 : (Jvm.Cond.code ({ cls := "InstantDeskModel", name := "whole", desc := "(I)J" } : Jvm.MethodName) prog_6_method_12_code (2 : Nat) (Option.some Jvm.ClassFile.FieldType.long)) ∈ lw_all := lw_g (lw_at lw_m2 76 rfl) rfl
theorem q322 : (Jvm.Cond.instanceMethod ({ cls := "InstantDeskModel", name := "nano", desc := "(I)I" } : Jvm.MethodName)) ∈ lw_all := lw_g (lw_at lw_m2 78 rfl) rfl
theorem q323 : (Jvm.Cond.selects "InstantDeskModel" ({ cls := "InstantDeskModel", name := "nano", desc := "(I)I" } : Jvm.MethodName) ({ cls := "InstantDeskModel", name := "nano", desc := "(I)I" } : Jvm.MethodName)) ∈ lw_all := lw_g (lw_at lw_m2 79 rfl) rfl
theorem q324 : (Jvm.Cond.code ({ cls := "InstantDeskModel", name := "nano", desc := "(I)I" } : Jvm.MethodName) prog_6_method_13_code (2 : Nat) (Option.some Jvm.ClassFile.FieldType.int)) ∈ lw_all := lw_g (lw_at lw_m2 80 rfl) rfl
theorem q326 : (Jvm.Cond.instanceMethod ({ cls := "InstantDeskModel", name := "before", desc := "()Z" } : Jvm.MethodName)) ∈ lw_all := lw_g (lw_at lw_m2 82 rfl) rfl
theorem q327 : (Jvm.Cond.selects "InstantDeskModel" ({ cls := "InstantDeskModel", name := "before", desc := "()Z" } : Jvm.MethodName) ({ cls := "InstantDeskModel", name := "before", desc := "()Z" } : Jvm.MethodName)) ∈ lw_all := lw_g (lw_at lw_m2 83 rfl) rfl
theorem q328 : (Jvm.Cond.code ({ cls := "InstantDeskModel", name := "before", desc := "()Z" } : Jvm.MethodName) prog_6_method_14_code (1 : Nat) (Option.some Jvm.ClassFile.FieldType.boolean)) ∈ lw_all := lw_g (lw_at lw_m2 84 rfl) rfl
theorem q329 : (Jvm.Cond.methodLink "InstantDeskModel" (48 : Nat) ({ cls := "InstantDeskModel", name := "order", desc := "()I" } : Jvm.MethodName)) ∈ lw_all := lw_g (lw_at lw_m2 85 rfl) rfl
theorem q330 : (Jvm.Cond.instanceMethod ({ cls := "InstantDeskModel", name := "order", desc := "()I" } : Jvm.MethodName)) ∈ lw_all := lw_g (lw_at lw_m2 86 rfl) rfl
theorem q331 : (Jvm.Cond.selects "InstantDeskModel" ({ cls := "InstantDeskModel", name := "order", desc := "()I" } : Jvm.MethodName) ({ cls := "InstantDeskModel", name := "order", desc := "()I" } : Jvm.MethodName)) ∈ lw_all := lw_g (lw_at lw_m2 87 rfl) rfl
theorem q332 : (Jvm.Cond.code ({ cls := "InstantDeskModel", name := "order", desc := "()I" } : Jvm.MethodName) prog_6_method_16_code (1 : Nat) (Option.some Jvm.ClassFile.FieldType.int)) ∈ lw_all := lw_g (lw_at lw_m2 88 rfl) rfl
theorem q334 : (Jvm.Cond.instanceMethod ({ cls := "InstantDeskModel", name := "after", desc := "()Z" } : Jvm.MethodName)) ∈ lw_all := lw_g (lw_at lw_m2 90 rfl) rfl
theorem q335 : (Jvm.Cond.selects "InstantDeskModel" ({ cls := "InstantDeskModel", name := "after", desc := "()Z" } : Jvm.MethodName) ({ cls := "InstantDeskModel", name := "after", desc := "()Z" } : Jvm.MethodName)) ∈ lw_all := lw_g (lw_at lw_m2 91 rfl) rfl
theorem q336 : (Jvm.Cond.code ({ cls := "InstantDeskModel", name := "after", desc := "()Z" } : Jvm.MethodName) prog_6_method_15_code (1 : Nat) (Option.some Jvm.ClassFile.FieldType.boolean)) ∈ lw_all := lw_g (lw_at lw_m2 92 rfl) rfl
theorem q339 : (Jvm.Cond.instanceMethod ({ cls := "InstantDeskModel", name := "milli", desc := "(I)J" } : Jvm.MethodName)) ∈ lw_all := lw_g (lw_at lw_m2 95 rfl) rfl
theorem q340 : (Jvm.Cond.selects "InstantDeskModel" ({ cls := "InstantDeskModel", name := "milli", desc := "(I)J" } : Jvm.MethodName) ({ cls := "InstantDeskModel", name := "milli", desc := "(I)J" } : Jvm.MethodName)) ∈ lw_all := lw_g (lw_at lw_m2 96 rfl) rfl
theorem q341 : (Jvm.Cond.code ({ cls := "InstantDeskModel", name := "milli", desc := "(I)J" } : Jvm.MethodName) prog_6_method_17_code (3 : Nat) (Option.some Jvm.ClassFile.FieldType.long)) ∈ lw_all := lw_g (lw_at lw_m2 97 rfl) rfl
theorem q342 : (Jvm.Cond.constantLong "InstantDeskModel" (52 : Nat) (9000000000000000 : Int64)) ∈ lw_all := lw_g (lw_at lw_m2 98 rfl) rfl
theorem q343 : (Jvm.Cond.constantLong "InstantDeskModel" (54 : Nat) (-9000000000000000 : Int64)) ∈ lw_all := lw_g (lw_at lw_m2 99 rfl) rfl
theorem in_X5 : ∀ w ∈ wsX50, w ∈ lw_all := lw_in wsX50 [268, 270] (by decide +kernel) (by decide +kernel)
end
section
/-! InstantDesk -/
set_option maxRecDepth 100000
def RX0 : String := "InstantDesk"
def TX0 : u_T := fun k => match k with
  | _ => ("InstantDesk", "at", "[LInstant;", true)
def tyX0 : Nat → FieldType := fun k => match k with
  | _ => .array (.object "Instant")
abbrev wsX00 : List Cond := u_ws RX0 TX0 1
theorem nmX0 : ∀ a, a < 1 → ∀ b, b < 1 → a ≠ b → (TX0 a).2.1 ≠ (TX0 b).2.1 := by decide +kernel
theorem tyX0_ok : ∀ k, k < 1 → parseFieldDescriptor (TX0 k).2.2.1 = some (tyX0 k) := by decide +kernel
abbrev cX0_init : ByteArray := prog_4_method_1_code
def yX0_init : MethodName := ⟨RX0, "<init>", "()V"⟩
def dkwX0_init_1 : List UInt8 := [83, 181, 0, 13, 177]
abbrev dktX0_init_1 : List UInt8 := dkwX0_init_1 ++ []
def dkwX0_init_0 : List UInt8 := [42, 183, 0, 1, 42, 5, 189, 0, 7, 89, 3, 9, 9, 184, 0, 9, 83, 89, 4, 9, 9, 184, 0, 9]
abbrev dktX0_init_0 : List UInt8 := dkwX0_init_0 ++ dktX0_init_1
theorem dksX0_init_0 : cX0_init.data.toList.drop 0 = dktX0_init_0 := by decide +kernel
theorem dksX0_init_1 : cX0_init.data.toList.drop 24 = dktX0_init_1 := dk_seg dksX0_init_0 24 rfl rfl
theorem dX0_init_0 : decode cX0_init 0 = .ok (.aload_n 0, 1) := dk_42 (dk_at dksX0_init_0 0 rfl rfl)
theorem dX0_init_1 : decode cX0_init 1 = .ok (.invokespecial 1, 3) := dk_183 0 1 (dk_at dksX0_init_0 1 rfl rfl)
theorem dX0_init_4 : decode cX0_init 4 = .ok (.aload_n 0, 1) := dk_42 (dk_at dksX0_init_0 4 rfl rfl)
theorem dX0_init_5 : decode cX0_init 5 = .ok (.iconst 2, 1) := dk_5 (dk_at dksX0_init_0 5 rfl rfl)
theorem dX0_init_6 : decode cX0_init 6 = .ok (.anewarray 7, 3) := dk_189 0 7 (dk_at dksX0_init_0 6 rfl rfl)
theorem dX0_init_9 : decode cX0_init 9 = .ok (.dup, 1) := dk_89 (dk_at dksX0_init_0 9 rfl rfl)
theorem dX0_init_10 : decode cX0_init 10 = .ok (.iconst 0, 1) := dk_3 (dk_at dksX0_init_0 10 rfl rfl)
theorem dX0_init_11 : decode cX0_init 11 = .ok (.lconst 0, 1) := dk_9 (dk_at dksX0_init_0 11 rfl rfl)
theorem dX0_init_12 : decode cX0_init 12 = .ok (.lconst 0, 1) := dk_9 (dk_at dksX0_init_0 12 rfl rfl)
theorem dX0_init_13 : decode cX0_init 13 = .ok (.invokestatic 9, 3) := dk_184 0 9 (dk_at dksX0_init_0 13 rfl rfl)
theorem dX0_init_16 : decode cX0_init 16 = .ok (.aastore, 1) := dk_83 (dk_at dksX0_init_0 16 rfl rfl)
theorem dX0_init_17 : decode cX0_init 17 = .ok (.dup, 1) := dk_89 (dk_at dksX0_init_0 17 rfl rfl)
theorem dX0_init_18 : decode cX0_init 18 = .ok (.iconst 1, 1) := dk_4 (dk_at dksX0_init_0 18 rfl rfl)
theorem dX0_init_19 : decode cX0_init 19 = .ok (.lconst 0, 1) := dk_9 (dk_at dksX0_init_0 19 rfl rfl)
theorem dX0_init_20 : decode cX0_init 20 = .ok (.lconst 0, 1) := dk_9 (dk_at dksX0_init_0 20 rfl rfl)
theorem dX0_init_21 : decode cX0_init 21 = .ok (.invokestatic 9, 3) := dk_184 0 9 (dk_at dksX0_init_0 21 rfl rfl)
theorem dX0_init_24 : decode cX0_init 24 = .ok (.aastore, 1) := dk_83 (dk_at dksX0_init_1 0 rfl rfl)
theorem dX0_init_25 : decode cX0_init 25 = .ok (.putfield 13, 3) := dk_181 0 13 (dk_at dksX0_init_1 1 rfl rfl)
theorem dX0_init_28 : decode cX0_init 28 = .ok (.return_, 1) := dk_177 (dk_at dksX0_init_1 4 rfl rfl)
abbrev cX0_set : ByteArray := prog_4_method_3_code
def yX0_set : MethodName := ⟨RX0, "set", "(IIII)V"⟩
def dkwX0_set_0 : List UInt8 := [42, 180, 0, 13, 27, 4, 126, 28, 29, 184, 0, 23, 21, 4, 133, 184, 0, 9, 83, 177]
abbrev dktX0_set_0 : List UInt8 := dkwX0_set_0 ++ []
theorem dksX0_set_0 : cX0_set.data.toList.drop 0 = dktX0_set_0 := by decide +kernel
theorem dX0_set_0 : decode cX0_set 0 = .ok (.aload_n 0, 1) := dk_42 (dk_at dksX0_set_0 0 rfl rfl)
theorem dX0_set_1 : decode cX0_set 1 = .ok (.getfield 13, 3) := dk_180 0 13 (dk_at dksX0_set_0 1 rfl rfl)
theorem dX0_set_4 : decode cX0_set 4 = .ok (.iload_n 1, 1) := dk_27 (dk_at dksX0_set_0 4 rfl rfl)
theorem dX0_set_5 : decode cX0_set 5 = .ok (.iconst 1, 1) := dk_4 (dk_at dksX0_set_0 5 rfl rfl)
theorem dX0_set_6 : decode cX0_set 6 = .ok (.iand, 1) := dk_126 (dk_at dksX0_set_0 6 rfl rfl)
theorem dX0_set_7 : decode cX0_set 7 = .ok (.iload_n 2, 1) := dk_28 (dk_at dksX0_set_0 7 rfl rfl)
theorem dX0_set_8 : decode cX0_set 8 = .ok (.iload_n 3, 1) := dk_29 (dk_at dksX0_set_0 8 rfl rfl)
theorem dX0_set_9 : decode cX0_set 9 = .ok (.invokestatic 23, 3) := dk_184 0 23 (dk_at dksX0_set_0 9 rfl rfl)
theorem dX0_set_12 : decode cX0_set 12 = .ok (.iload 4, 2) := dk_21 4 (dk_at dksX0_set_0 12 rfl rfl)
theorem dX0_set_14 : decode cX0_set 14 = .ok (.i2l, 1) := dk_133 (dk_at dksX0_set_0 14 rfl rfl)
theorem dX0_set_15 : decode cX0_set 15 = .ok (.invokestatic 9, 3) := dk_184 0 9 (dk_at dksX0_set_0 15 rfl rfl)
theorem dX0_set_18 : decode cX0_set 18 = .ok (.aastore, 1) := dk_83 (dk_at dksX0_set_0 18 rfl rfl)
theorem dX0_set_19 : decode cX0_set 19 = .ok (.return_, 1) := dk_177 (dk_at dksX0_set_0 19 rfl rfl)
abbrev cX0_second : ByteArray := prog_4_method_2_code
def yX0_second : MethodName := ⟨RX0, "second", "(II)J"⟩
def dkwX0_second_0 : List UInt8 := [26, 133, 16, 32, 121, 27, 133, 20, 0, 19, 127, 129, 20, 0, 21, 113, 173]
abbrev dktX0_second_0 : List UInt8 := dkwX0_second_0 ++ []
theorem dksX0_second_0 : cX0_second.data.toList.drop 0 = dktX0_second_0 := by decide +kernel
theorem dX0_second_0 : decode cX0_second 0 = .ok (.iload_n 0, 1) := dk_26 (dk_at dksX0_second_0 0 rfl rfl)
theorem dX0_second_1 : decode cX0_second 1 = .ok (.i2l, 1) := dk_133 (dk_at dksX0_second_0 1 rfl rfl)
theorem dX0_second_2 : decode cX0_second 2 = .ok (.bipush 32, 2) := dk_16 32 (dk_at dksX0_second_0 2 rfl rfl)
theorem dX0_second_4 : decode cX0_second 4 = .ok (.lshl, 1) := dk_121 (dk_at dksX0_second_0 4 rfl rfl)
theorem dX0_second_5 : decode cX0_second 5 = .ok (.iload_n 1, 1) := dk_27 (dk_at dksX0_second_0 5 rfl rfl)
theorem dX0_second_6 : decode cX0_second 6 = .ok (.i2l, 1) := dk_133 (dk_at dksX0_second_0 6 rfl rfl)
theorem dX0_second_7 : decode cX0_second 7 = .ok (.ldc2_w 19, 3) := dk_20 0 19 (dk_at dksX0_second_0 7 rfl rfl)
theorem dX0_second_10 : decode cX0_second 10 = .ok (.land, 1) := dk_127 (dk_at dksX0_second_0 10 rfl rfl)
theorem dX0_second_11 : decode cX0_second 11 = .ok (.lor, 1) := dk_129 (dk_at dksX0_second_0 11 rfl rfl)
theorem dX0_second_12 : decode cX0_second 12 = .ok (.ldc2_w 21, 3) := dk_20 0 21 (dk_at dksX0_second_0 12 rfl rfl)
theorem dX0_second_15 : decode cX0_second 15 = .ok (.lrem, 1) := dk_113 (dk_at dksX0_second_0 15 rfl rfl)
theorem dX0_second_16 : decode cX0_second 16 = .ok (.lreturn, 1) := dk_173 (dk_at dksX0_second_0 16 rfl rfl)
abbrev cX0_seconds : ByteArray := prog_4_method_4_code
def yX0_seconds : MethodName := ⟨RX0, "seconds", "(II)Z"⟩
def dkwX0_seconds_2 : List UInt8 := [182, 0, 33, 83, 4, 172]
abbrev dktX0_seconds_2 : List UInt8 := dkwX0_seconds_2 ++ []
def dkwX0_seconds_1 : List UInt8 := [148, 156, 0, 5, 3, 172, 42, 180, 0, 13, 27, 4, 126, 42, 180, 0, 13, 27, 4, 126, 50, 28, 133]
abbrev dktX0_seconds_1 : List UInt8 := dkwX0_seconds_1 ++ dktX0_seconds_2
def dkwX0_seconds_0 : List UInt8 := [42, 180, 0, 13, 27, 4, 126, 50, 182, 0, 27, 66, 33, 20, 0, 21, 148, 157, 0, 11, 33, 20, 0, 31]
abbrev dktX0_seconds_0 : List UInt8 := dkwX0_seconds_0 ++ dktX0_seconds_1
theorem dksX0_seconds_0 : cX0_seconds.data.toList.drop 0 = dktX0_seconds_0 := by decide +kernel
theorem dksX0_seconds_1 : cX0_seconds.data.toList.drop 24 = dktX0_seconds_1 := dk_seg dksX0_seconds_0 24 rfl rfl
theorem dksX0_seconds_2 : cX0_seconds.data.toList.drop 47 = dktX0_seconds_2 := dk_seg dksX0_seconds_1 23 rfl rfl
theorem dX0_seconds_0 : decode cX0_seconds 0 = .ok (.aload_n 0, 1) := dk_42 (dk_at dksX0_seconds_0 0 rfl rfl)
theorem dX0_seconds_1 : decode cX0_seconds 1 = .ok (.getfield 13, 3) := dk_180 0 13 (dk_at dksX0_seconds_0 1 rfl rfl)
theorem dX0_seconds_4 : decode cX0_seconds 4 = .ok (.iload_n 1, 1) := dk_27 (dk_at dksX0_seconds_0 4 rfl rfl)
theorem dX0_seconds_5 : decode cX0_seconds 5 = .ok (.iconst 1, 1) := dk_4 (dk_at dksX0_seconds_0 5 rfl rfl)
theorem dX0_seconds_6 : decode cX0_seconds 6 = .ok (.iand, 1) := dk_126 (dk_at dksX0_seconds_0 6 rfl rfl)
theorem dX0_seconds_7 : decode cX0_seconds 7 = .ok (.aaload, 1) := dk_50 (dk_at dksX0_seconds_0 7 rfl rfl)
theorem dX0_seconds_8 : decode cX0_seconds 8 = .ok (.invokevirtual 27, 3) := dk_182 0 27 (dk_at dksX0_seconds_0 8 rfl rfl)
theorem dX0_seconds_11 : decode cX0_seconds 11 = .ok (.lstore_n 3, 1) := dk_66 (dk_at dksX0_seconds_0 11 rfl rfl)
theorem dX0_seconds_12 : decode cX0_seconds 12 = .ok (.lload_n 3, 1) := dk_33 (dk_at dksX0_seconds_0 12 rfl rfl)
theorem dX0_seconds_13 : decode cX0_seconds 13 = .ok (.ldc2_w 21, 3) := dk_20 0 21 (dk_at dksX0_seconds_0 13 rfl rfl)
theorem dX0_seconds_16 : decode cX0_seconds 16 = .ok (.lcmp, 1) := dk_148 (dk_at dksX0_seconds_0 16 rfl rfl)
theorem dX0_seconds_17 : decode cX0_seconds 17 = .ok (.ifCond .gt 11, 3) := dk_157 0 11 (dk_at dksX0_seconds_0 17 rfl rfl)
theorem dX0_seconds_20 : decode cX0_seconds 20 = .ok (.lload_n 3, 1) := dk_33 (dk_at dksX0_seconds_0 20 rfl rfl)
theorem dX0_seconds_21 : decode cX0_seconds 21 = .ok (.ldc2_w 31, 3) := dk_20 0 31 (dk_at dksX0_seconds_0 21 rfl rfl)
theorem dX0_seconds_24 : decode cX0_seconds 24 = .ok (.lcmp, 1) := dk_148 (dk_at dksX0_seconds_1 0 rfl rfl)
theorem dX0_seconds_25 : decode cX0_seconds 25 = .ok (.ifCond .ge 5, 3) := dk_156 0 5 (dk_at dksX0_seconds_1 1 rfl rfl)
theorem dX0_seconds_28 : decode cX0_seconds 28 = .ok (.iconst 0, 1) := dk_3 (dk_at dksX0_seconds_1 4 rfl rfl)
theorem dX0_seconds_29 : decode cX0_seconds 29 = .ok (.ireturn, 1) := dk_172 (dk_at dksX0_seconds_1 5 rfl rfl)
theorem dX0_seconds_30 : decode cX0_seconds 30 = .ok (.aload_n 0, 1) := dk_42 (dk_at dksX0_seconds_1 6 rfl rfl)
theorem dX0_seconds_31 : decode cX0_seconds 31 = .ok (.getfield 13, 3) := dk_180 0 13 (dk_at dksX0_seconds_1 7 rfl rfl)
theorem dX0_seconds_34 : decode cX0_seconds 34 = .ok (.iload_n 1, 1) := dk_27 (dk_at dksX0_seconds_1 10 rfl rfl)
theorem dX0_seconds_35 : decode cX0_seconds 35 = .ok (.iconst 1, 1) := dk_4 (dk_at dksX0_seconds_1 11 rfl rfl)
theorem dX0_seconds_36 : decode cX0_seconds 36 = .ok (.iand, 1) := dk_126 (dk_at dksX0_seconds_1 12 rfl rfl)
theorem dX0_seconds_37 : decode cX0_seconds 37 = .ok (.aload_n 0, 1) := dk_42 (dk_at dksX0_seconds_1 13 rfl rfl)
theorem dX0_seconds_38 : decode cX0_seconds 38 = .ok (.getfield 13, 3) := dk_180 0 13 (dk_at dksX0_seconds_1 14 rfl rfl)
theorem dX0_seconds_41 : decode cX0_seconds 41 = .ok (.iload_n 1, 1) := dk_27 (dk_at dksX0_seconds_1 17 rfl rfl)
theorem dX0_seconds_42 : decode cX0_seconds 42 = .ok (.iconst 1, 1) := dk_4 (dk_at dksX0_seconds_1 18 rfl rfl)
theorem dX0_seconds_43 : decode cX0_seconds 43 = .ok (.iand, 1) := dk_126 (dk_at dksX0_seconds_1 19 rfl rfl)
theorem dX0_seconds_44 : decode cX0_seconds 44 = .ok (.aaload, 1) := dk_50 (dk_at dksX0_seconds_1 20 rfl rfl)
theorem dX0_seconds_45 : decode cX0_seconds 45 = .ok (.iload_n 2, 1) := dk_28 (dk_at dksX0_seconds_1 21 rfl rfl)
theorem dX0_seconds_46 : decode cX0_seconds 46 = .ok (.i2l, 1) := dk_133 (dk_at dksX0_seconds_1 22 rfl rfl)
theorem dX0_seconds_47 : decode cX0_seconds 47 = .ok (.invokevirtual 33, 3) := dk_182 0 33 (dk_at dksX0_seconds_2 0 rfl rfl)
theorem dX0_seconds_50 : decode cX0_seconds 50 = .ok (.aastore, 1) := dk_83 (dk_at dksX0_seconds_2 3 rfl rfl)
theorem dX0_seconds_51 : decode cX0_seconds 51 = .ok (.iconst 1, 1) := dk_4 (dk_at dksX0_seconds_2 4 rfl rfl)
theorem dX0_seconds_52 : decode cX0_seconds 52 = .ok (.ireturn, 1) := dk_172 (dk_at dksX0_seconds_2 5 rfl rfl)
abbrev cX0_millis : ByteArray := prog_4_method_5_code
def yX0_millis : MethodName := ⟨RX0, "millis", "(II)Z"⟩
def dkwX0_millis_2 : List UInt8 := [182, 0, 37, 83, 4, 172]
abbrev dktX0_millis_2 : List UInt8 := dkwX0_millis_2 ++ []
def dkwX0_millis_1 : List UInt8 := [148, 156, 0, 5, 3, 172, 42, 180, 0, 13, 27, 4, 126, 42, 180, 0, 13, 27, 4, 126, 50, 28, 133]
abbrev dktX0_millis_1 : List UInt8 := dkwX0_millis_1 ++ dktX0_millis_2
def dkwX0_millis_0 : List UInt8 := [42, 180, 0, 13, 27, 4, 126, 50, 182, 0, 27, 66, 33, 20, 0, 21, 148, 157, 0, 11, 33, 20, 0, 31]
abbrev dktX0_millis_0 : List UInt8 := dkwX0_millis_0 ++ dktX0_millis_1
theorem dksX0_millis_0 : cX0_millis.data.toList.drop 0 = dktX0_millis_0 := by decide +kernel
theorem dksX0_millis_1 : cX0_millis.data.toList.drop 24 = dktX0_millis_1 := dk_seg dksX0_millis_0 24 rfl rfl
theorem dksX0_millis_2 : cX0_millis.data.toList.drop 47 = dktX0_millis_2 := dk_seg dksX0_millis_1 23 rfl rfl
theorem dX0_millis_0 : decode cX0_millis 0 = .ok (.aload_n 0, 1) := dk_42 (dk_at dksX0_millis_0 0 rfl rfl)
theorem dX0_millis_1 : decode cX0_millis 1 = .ok (.getfield 13, 3) := dk_180 0 13 (dk_at dksX0_millis_0 1 rfl rfl)
theorem dX0_millis_4 : decode cX0_millis 4 = .ok (.iload_n 1, 1) := dk_27 (dk_at dksX0_millis_0 4 rfl rfl)
theorem dX0_millis_5 : decode cX0_millis 5 = .ok (.iconst 1, 1) := dk_4 (dk_at dksX0_millis_0 5 rfl rfl)
theorem dX0_millis_6 : decode cX0_millis 6 = .ok (.iand, 1) := dk_126 (dk_at dksX0_millis_0 6 rfl rfl)
theorem dX0_millis_7 : decode cX0_millis 7 = .ok (.aaload, 1) := dk_50 (dk_at dksX0_millis_0 7 rfl rfl)
theorem dX0_millis_8 : decode cX0_millis 8 = .ok (.invokevirtual 27, 3) := dk_182 0 27 (dk_at dksX0_millis_0 8 rfl rfl)
theorem dX0_millis_11 : decode cX0_millis 11 = .ok (.lstore_n 3, 1) := dk_66 (dk_at dksX0_millis_0 11 rfl rfl)
theorem dX0_millis_12 : decode cX0_millis 12 = .ok (.lload_n 3, 1) := dk_33 (dk_at dksX0_millis_0 12 rfl rfl)
theorem dX0_millis_13 : decode cX0_millis 13 = .ok (.ldc2_w 21, 3) := dk_20 0 21 (dk_at dksX0_millis_0 13 rfl rfl)
theorem dX0_millis_16 : decode cX0_millis 16 = .ok (.lcmp, 1) := dk_148 (dk_at dksX0_millis_0 16 rfl rfl)
theorem dX0_millis_17 : decode cX0_millis 17 = .ok (.ifCond .gt 11, 3) := dk_157 0 11 (dk_at dksX0_millis_0 17 rfl rfl)
theorem dX0_millis_20 : decode cX0_millis 20 = .ok (.lload_n 3, 1) := dk_33 (dk_at dksX0_millis_0 20 rfl rfl)
theorem dX0_millis_21 : decode cX0_millis 21 = .ok (.ldc2_w 31, 3) := dk_20 0 31 (dk_at dksX0_millis_0 21 rfl rfl)
theorem dX0_millis_24 : decode cX0_millis 24 = .ok (.lcmp, 1) := dk_148 (dk_at dksX0_millis_1 0 rfl rfl)
theorem dX0_millis_25 : decode cX0_millis 25 = .ok (.ifCond .ge 5, 3) := dk_156 0 5 (dk_at dksX0_millis_1 1 rfl rfl)
theorem dX0_millis_28 : decode cX0_millis 28 = .ok (.iconst 0, 1) := dk_3 (dk_at dksX0_millis_1 4 rfl rfl)
theorem dX0_millis_29 : decode cX0_millis 29 = .ok (.ireturn, 1) := dk_172 (dk_at dksX0_millis_1 5 rfl rfl)
theorem dX0_millis_30 : decode cX0_millis 30 = .ok (.aload_n 0, 1) := dk_42 (dk_at dksX0_millis_1 6 rfl rfl)
theorem dX0_millis_31 : decode cX0_millis 31 = .ok (.getfield 13, 3) := dk_180 0 13 (dk_at dksX0_millis_1 7 rfl rfl)
theorem dX0_millis_34 : decode cX0_millis 34 = .ok (.iload_n 1, 1) := dk_27 (dk_at dksX0_millis_1 10 rfl rfl)
theorem dX0_millis_35 : decode cX0_millis 35 = .ok (.iconst 1, 1) := dk_4 (dk_at dksX0_millis_1 11 rfl rfl)
theorem dX0_millis_36 : decode cX0_millis 36 = .ok (.iand, 1) := dk_126 (dk_at dksX0_millis_1 12 rfl rfl)
theorem dX0_millis_37 : decode cX0_millis 37 = .ok (.aload_n 0, 1) := dk_42 (dk_at dksX0_millis_1 13 rfl rfl)
theorem dX0_millis_38 : decode cX0_millis 38 = .ok (.getfield 13, 3) := dk_180 0 13 (dk_at dksX0_millis_1 14 rfl rfl)
theorem dX0_millis_41 : decode cX0_millis 41 = .ok (.iload_n 1, 1) := dk_27 (dk_at dksX0_millis_1 17 rfl rfl)
theorem dX0_millis_42 : decode cX0_millis 42 = .ok (.iconst 1, 1) := dk_4 (dk_at dksX0_millis_1 18 rfl rfl)
theorem dX0_millis_43 : decode cX0_millis 43 = .ok (.iand, 1) := dk_126 (dk_at dksX0_millis_1 19 rfl rfl)
theorem dX0_millis_44 : decode cX0_millis 44 = .ok (.aaload, 1) := dk_50 (dk_at dksX0_millis_1 20 rfl rfl)
theorem dX0_millis_45 : decode cX0_millis 45 = .ok (.iload_n 2, 1) := dk_28 (dk_at dksX0_millis_1 21 rfl rfl)
theorem dX0_millis_46 : decode cX0_millis 46 = .ok (.i2l, 1) := dk_133 (dk_at dksX0_millis_1 22 rfl rfl)
theorem dX0_millis_47 : decode cX0_millis 47 = .ok (.invokevirtual 37, 3) := dk_182 0 37 (dk_at dksX0_millis_2 0 rfl rfl)
theorem dX0_millis_50 : decode cX0_millis 50 = .ok (.aastore, 1) := dk_83 (dk_at dksX0_millis_2 3 rfl rfl)
theorem dX0_millis_51 : decode cX0_millis 51 = .ok (.iconst 1, 1) := dk_4 (dk_at dksX0_millis_2 4 rfl rfl)
theorem dX0_millis_52 : decode cX0_millis 52 = .ok (.ireturn, 1) := dk_172 (dk_at dksX0_millis_2 5 rfl rfl)
abbrev cX0_nanos : ByteArray := prog_4_method_6_code
def yX0_nanos : MethodName := ⟨RX0, "nanos", "(II)Z"⟩
def dkwX0_nanos_2 : List UInt8 := [182, 0, 40, 83, 4, 172]
abbrev dktX0_nanos_2 : List UInt8 := dkwX0_nanos_2 ++ []
def dkwX0_nanos_1 : List UInt8 := [148, 156, 0, 5, 3, 172, 42, 180, 0, 13, 27, 4, 126, 42, 180, 0, 13, 27, 4, 126, 50, 28, 133]
abbrev dktX0_nanos_1 : List UInt8 := dkwX0_nanos_1 ++ dktX0_nanos_2
def dkwX0_nanos_0 : List UInt8 := [42, 180, 0, 13, 27, 4, 126, 50, 182, 0, 27, 66, 33, 20, 0, 21, 148, 157, 0, 11, 33, 20, 0, 31]
abbrev dktX0_nanos_0 : List UInt8 := dkwX0_nanos_0 ++ dktX0_nanos_1
theorem dksX0_nanos_0 : cX0_nanos.data.toList.drop 0 = dktX0_nanos_0 := by decide +kernel
theorem dksX0_nanos_1 : cX0_nanos.data.toList.drop 24 = dktX0_nanos_1 := dk_seg dksX0_nanos_0 24 rfl rfl
theorem dksX0_nanos_2 : cX0_nanos.data.toList.drop 47 = dktX0_nanos_2 := dk_seg dksX0_nanos_1 23 rfl rfl
theorem dX0_nanos_0 : decode cX0_nanos 0 = .ok (.aload_n 0, 1) := dk_42 (dk_at dksX0_nanos_0 0 rfl rfl)
theorem dX0_nanos_1 : decode cX0_nanos 1 = .ok (.getfield 13, 3) := dk_180 0 13 (dk_at dksX0_nanos_0 1 rfl rfl)
theorem dX0_nanos_4 : decode cX0_nanos 4 = .ok (.iload_n 1, 1) := dk_27 (dk_at dksX0_nanos_0 4 rfl rfl)
theorem dX0_nanos_5 : decode cX0_nanos 5 = .ok (.iconst 1, 1) := dk_4 (dk_at dksX0_nanos_0 5 rfl rfl)
theorem dX0_nanos_6 : decode cX0_nanos 6 = .ok (.iand, 1) := dk_126 (dk_at dksX0_nanos_0 6 rfl rfl)
theorem dX0_nanos_7 : decode cX0_nanos 7 = .ok (.aaload, 1) := dk_50 (dk_at dksX0_nanos_0 7 rfl rfl)
theorem dX0_nanos_8 : decode cX0_nanos 8 = .ok (.invokevirtual 27, 3) := dk_182 0 27 (dk_at dksX0_nanos_0 8 rfl rfl)
theorem dX0_nanos_11 : decode cX0_nanos 11 = .ok (.lstore_n 3, 1) := dk_66 (dk_at dksX0_nanos_0 11 rfl rfl)
theorem dX0_nanos_12 : decode cX0_nanos 12 = .ok (.lload_n 3, 1) := dk_33 (dk_at dksX0_nanos_0 12 rfl rfl)
theorem dX0_nanos_13 : decode cX0_nanos 13 = .ok (.ldc2_w 21, 3) := dk_20 0 21 (dk_at dksX0_nanos_0 13 rfl rfl)
theorem dX0_nanos_16 : decode cX0_nanos 16 = .ok (.lcmp, 1) := dk_148 (dk_at dksX0_nanos_0 16 rfl rfl)
theorem dX0_nanos_17 : decode cX0_nanos 17 = .ok (.ifCond .gt 11, 3) := dk_157 0 11 (dk_at dksX0_nanos_0 17 rfl rfl)
theorem dX0_nanos_20 : decode cX0_nanos 20 = .ok (.lload_n 3, 1) := dk_33 (dk_at dksX0_nanos_0 20 rfl rfl)
theorem dX0_nanos_21 : decode cX0_nanos 21 = .ok (.ldc2_w 31, 3) := dk_20 0 31 (dk_at dksX0_nanos_0 21 rfl rfl)
theorem dX0_nanos_24 : decode cX0_nanos 24 = .ok (.lcmp, 1) := dk_148 (dk_at dksX0_nanos_1 0 rfl rfl)
theorem dX0_nanos_25 : decode cX0_nanos 25 = .ok (.ifCond .ge 5, 3) := dk_156 0 5 (dk_at dksX0_nanos_1 1 rfl rfl)
theorem dX0_nanos_28 : decode cX0_nanos 28 = .ok (.iconst 0, 1) := dk_3 (dk_at dksX0_nanos_1 4 rfl rfl)
theorem dX0_nanos_29 : decode cX0_nanos 29 = .ok (.ireturn, 1) := dk_172 (dk_at dksX0_nanos_1 5 rfl rfl)
theorem dX0_nanos_30 : decode cX0_nanos 30 = .ok (.aload_n 0, 1) := dk_42 (dk_at dksX0_nanos_1 6 rfl rfl)
theorem dX0_nanos_31 : decode cX0_nanos 31 = .ok (.getfield 13, 3) := dk_180 0 13 (dk_at dksX0_nanos_1 7 rfl rfl)
theorem dX0_nanos_34 : decode cX0_nanos 34 = .ok (.iload_n 1, 1) := dk_27 (dk_at dksX0_nanos_1 10 rfl rfl)
theorem dX0_nanos_35 : decode cX0_nanos 35 = .ok (.iconst 1, 1) := dk_4 (dk_at dksX0_nanos_1 11 rfl rfl)
theorem dX0_nanos_36 : decode cX0_nanos 36 = .ok (.iand, 1) := dk_126 (dk_at dksX0_nanos_1 12 rfl rfl)
theorem dX0_nanos_37 : decode cX0_nanos 37 = .ok (.aload_n 0, 1) := dk_42 (dk_at dksX0_nanos_1 13 rfl rfl)
theorem dX0_nanos_38 : decode cX0_nanos 38 = .ok (.getfield 13, 3) := dk_180 0 13 (dk_at dksX0_nanos_1 14 rfl rfl)
theorem dX0_nanos_41 : decode cX0_nanos 41 = .ok (.iload_n 1, 1) := dk_27 (dk_at dksX0_nanos_1 17 rfl rfl)
theorem dX0_nanos_42 : decode cX0_nanos 42 = .ok (.iconst 1, 1) := dk_4 (dk_at dksX0_nanos_1 18 rfl rfl)
theorem dX0_nanos_43 : decode cX0_nanos 43 = .ok (.iand, 1) := dk_126 (dk_at dksX0_nanos_1 19 rfl rfl)
theorem dX0_nanos_44 : decode cX0_nanos 44 = .ok (.aaload, 1) := dk_50 (dk_at dksX0_nanos_1 20 rfl rfl)
theorem dX0_nanos_45 : decode cX0_nanos 45 = .ok (.iload_n 2, 1) := dk_28 (dk_at dksX0_nanos_1 21 rfl rfl)
theorem dX0_nanos_46 : decode cX0_nanos 46 = .ok (.i2l, 1) := dk_133 (dk_at dksX0_nanos_1 22 rfl rfl)
theorem dX0_nanos_47 : decode cX0_nanos 47 = .ok (.invokevirtual 40, 3) := dk_182 0 40 (dk_at dksX0_nanos_2 0 rfl rfl)
theorem dX0_nanos_50 : decode cX0_nanos 50 = .ok (.aastore, 1) := dk_83 (dk_at dksX0_nanos_2 3 rfl rfl)
theorem dX0_nanos_51 : decode cX0_nanos 51 = .ok (.iconst 1, 1) := dk_4 (dk_at dksX0_nanos_2 4 rfl rfl)
theorem dX0_nanos_52 : decode cX0_nanos 52 = .ok (.ireturn, 1) := dk_172 (dk_at dksX0_nanos_2 5 rfl rfl)
abbrev cX0_ofMilli : ByteArray := prog_4_method_7_code
def yX0_ofMilli : MethodName := ⟨RX0, "ofMilli", "(III)V"⟩
def dkwX0_ofMilli_0 : List UInt8 := [42, 180, 0, 13, 27, 4, 126, 28, 133, 16, 32, 121, 29, 133, 20, 0, 19, 127, 129, 184, 0, 43, 83, 177]
abbrev dktX0_ofMilli_0 : List UInt8 := dkwX0_ofMilli_0 ++ []
theorem dksX0_ofMilli_0 : cX0_ofMilli.data.toList.drop 0 = dktX0_ofMilli_0 := by decide +kernel
theorem dX0_ofMilli_0 : decode cX0_ofMilli 0 = .ok (.aload_n 0, 1) := dk_42 (dk_at dksX0_ofMilli_0 0 rfl rfl)
theorem dX0_ofMilli_1 : decode cX0_ofMilli 1 = .ok (.getfield 13, 3) := dk_180 0 13 (dk_at dksX0_ofMilli_0 1 rfl rfl)
theorem dX0_ofMilli_4 : decode cX0_ofMilli 4 = .ok (.iload_n 1, 1) := dk_27 (dk_at dksX0_ofMilli_0 4 rfl rfl)
theorem dX0_ofMilli_5 : decode cX0_ofMilli 5 = .ok (.iconst 1, 1) := dk_4 (dk_at dksX0_ofMilli_0 5 rfl rfl)
theorem dX0_ofMilli_6 : decode cX0_ofMilli 6 = .ok (.iand, 1) := dk_126 (dk_at dksX0_ofMilli_0 6 rfl rfl)
theorem dX0_ofMilli_7 : decode cX0_ofMilli 7 = .ok (.iload_n 2, 1) := dk_28 (dk_at dksX0_ofMilli_0 7 rfl rfl)
theorem dX0_ofMilli_8 : decode cX0_ofMilli 8 = .ok (.i2l, 1) := dk_133 (dk_at dksX0_ofMilli_0 8 rfl rfl)
theorem dX0_ofMilli_9 : decode cX0_ofMilli 9 = .ok (.bipush 32, 2) := dk_16 32 (dk_at dksX0_ofMilli_0 9 rfl rfl)
theorem dX0_ofMilli_11 : decode cX0_ofMilli 11 = .ok (.lshl, 1) := dk_121 (dk_at dksX0_ofMilli_0 11 rfl rfl)
theorem dX0_ofMilli_12 : decode cX0_ofMilli 12 = .ok (.iload_n 3, 1) := dk_29 (dk_at dksX0_ofMilli_0 12 rfl rfl)
theorem dX0_ofMilli_13 : decode cX0_ofMilli 13 = .ok (.i2l, 1) := dk_133 (dk_at dksX0_ofMilli_0 13 rfl rfl)
theorem dX0_ofMilli_14 : decode cX0_ofMilli 14 = .ok (.ldc2_w 19, 3) := dk_20 0 19 (dk_at dksX0_ofMilli_0 14 rfl rfl)
theorem dX0_ofMilli_17 : decode cX0_ofMilli 17 = .ok (.land, 1) := dk_127 (dk_at dksX0_ofMilli_0 17 rfl rfl)
theorem dX0_ofMilli_18 : decode cX0_ofMilli 18 = .ok (.lor, 1) := dk_129 (dk_at dksX0_ofMilli_0 18 rfl rfl)
theorem dX0_ofMilli_19 : decode cX0_ofMilli 19 = .ok (.invokestatic 43, 3) := dk_184 0 43 (dk_at dksX0_ofMilli_0 19 rfl rfl)
theorem dX0_ofMilli_22 : decode cX0_ofMilli 22 = .ok (.aastore, 1) := dk_83 (dk_at dksX0_ofMilli_0 22 rfl rfl)
theorem dX0_ofMilli_23 : decode cX0_ofMilli 23 = .ok (.return_, 1) := dk_177 (dk_at dksX0_ofMilli_0 23 rfl rfl)
abbrev cX0_whole : ByteArray := prog_4_method_8_code
def yX0_whole : MethodName := ⟨RX0, "whole", "(I)J"⟩
def dkwX0_whole_0 : List UInt8 := [42, 180, 0, 13, 27, 4, 126, 50, 182, 0, 27, 173]
abbrev dktX0_whole_0 : List UInt8 := dkwX0_whole_0 ++ []
theorem dksX0_whole_0 : cX0_whole.data.toList.drop 0 = dktX0_whole_0 := by decide +kernel
theorem dX0_whole_0 : decode cX0_whole 0 = .ok (.aload_n 0, 1) := dk_42 (dk_at dksX0_whole_0 0 rfl rfl)
theorem dX0_whole_1 : decode cX0_whole 1 = .ok (.getfield 13, 3) := dk_180 0 13 (dk_at dksX0_whole_0 1 rfl rfl)
theorem dX0_whole_4 : decode cX0_whole 4 = .ok (.iload_n 1, 1) := dk_27 (dk_at dksX0_whole_0 4 rfl rfl)
theorem dX0_whole_5 : decode cX0_whole 5 = .ok (.iconst 1, 1) := dk_4 (dk_at dksX0_whole_0 5 rfl rfl)
theorem dX0_whole_6 : decode cX0_whole 6 = .ok (.iand, 1) := dk_126 (dk_at dksX0_whole_0 6 rfl rfl)
theorem dX0_whole_7 : decode cX0_whole 7 = .ok (.aaload, 1) := dk_50 (dk_at dksX0_whole_0 7 rfl rfl)
theorem dX0_whole_8 : decode cX0_whole 8 = .ok (.invokevirtual 27, 3) := dk_182 0 27 (dk_at dksX0_whole_0 8 rfl rfl)
theorem dX0_whole_11 : decode cX0_whole 11 = .ok (.lreturn, 1) := dk_173 (dk_at dksX0_whole_0 11 rfl rfl)
abbrev cX0_nano : ByteArray := prog_4_method_9_code
def yX0_nano : MethodName := ⟨RX0, "nano", "(I)I"⟩
def dkwX0_nano_0 : List UInt8 := [42, 180, 0, 13, 27, 4, 126, 50, 182, 0, 46, 172]
abbrev dktX0_nano_0 : List UInt8 := dkwX0_nano_0 ++ []
theorem dksX0_nano_0 : cX0_nano.data.toList.drop 0 = dktX0_nano_0 := by decide +kernel
theorem dX0_nano_0 : decode cX0_nano 0 = .ok (.aload_n 0, 1) := dk_42 (dk_at dksX0_nano_0 0 rfl rfl)
theorem dX0_nano_1 : decode cX0_nano 1 = .ok (.getfield 13, 3) := dk_180 0 13 (dk_at dksX0_nano_0 1 rfl rfl)
theorem dX0_nano_4 : decode cX0_nano 4 = .ok (.iload_n 1, 1) := dk_27 (dk_at dksX0_nano_0 4 rfl rfl)
theorem dX0_nano_5 : decode cX0_nano 5 = .ok (.iconst 1, 1) := dk_4 (dk_at dksX0_nano_0 5 rfl rfl)
theorem dX0_nano_6 : decode cX0_nano 6 = .ok (.iand, 1) := dk_126 (dk_at dksX0_nano_0 6 rfl rfl)
theorem dX0_nano_7 : decode cX0_nano 7 = .ok (.aaload, 1) := dk_50 (dk_at dksX0_nano_0 7 rfl rfl)
theorem dX0_nano_8 : decode cX0_nano 8 = .ok (.invokevirtual 46, 3) := dk_182 0 46 (dk_at dksX0_nano_0 8 rfl rfl)
theorem dX0_nano_11 : decode cX0_nano 11 = .ok (.ireturn, 1) := dk_172 (dk_at dksX0_nano_0 11 rfl rfl)
abbrev cX0_before : ByteArray := prog_4_method_10_code
def yX0_before : MethodName := ⟨RX0, "before", "()Z"⟩
def dkwX0_before_0 : List UInt8 := [42, 180, 0, 13, 3, 50, 42, 180, 0, 13, 4, 50, 182, 0, 50, 172]
abbrev dktX0_before_0 : List UInt8 := dkwX0_before_0 ++ []
theorem dksX0_before_0 : cX0_before.data.toList.drop 0 = dktX0_before_0 := by decide +kernel
theorem dX0_before_0 : decode cX0_before 0 = .ok (.aload_n 0, 1) := dk_42 (dk_at dksX0_before_0 0 rfl rfl)
theorem dX0_before_1 : decode cX0_before 1 = .ok (.getfield 13, 3) := dk_180 0 13 (dk_at dksX0_before_0 1 rfl rfl)
theorem dX0_before_4 : decode cX0_before 4 = .ok (.iconst 0, 1) := dk_3 (dk_at dksX0_before_0 4 rfl rfl)
theorem dX0_before_5 : decode cX0_before 5 = .ok (.aaload, 1) := dk_50 (dk_at dksX0_before_0 5 rfl rfl)
theorem dX0_before_6 : decode cX0_before 6 = .ok (.aload_n 0, 1) := dk_42 (dk_at dksX0_before_0 6 rfl rfl)
theorem dX0_before_7 : decode cX0_before 7 = .ok (.getfield 13, 3) := dk_180 0 13 (dk_at dksX0_before_0 7 rfl rfl)
theorem dX0_before_10 : decode cX0_before 10 = .ok (.iconst 1, 1) := dk_4 (dk_at dksX0_before_0 10 rfl rfl)
theorem dX0_before_11 : decode cX0_before 11 = .ok (.aaload, 1) := dk_50 (dk_at dksX0_before_0 11 rfl rfl)
theorem dX0_before_12 : decode cX0_before 12 = .ok (.invokevirtual 50, 3) := dk_182 0 50 (dk_at dksX0_before_0 12 rfl rfl)
theorem dX0_before_15 : decode cX0_before 15 = .ok (.ireturn, 1) := dk_172 (dk_at dksX0_before_0 15 rfl rfl)
abbrev cX0_after : ByteArray := prog_4_method_11_code
def yX0_after : MethodName := ⟨RX0, "after", "()Z"⟩
def dkwX0_after_0 : List UInt8 := [42, 180, 0, 13, 3, 50, 42, 180, 0, 13, 4, 50, 182, 0, 54, 172]
abbrev dktX0_after_0 : List UInt8 := dkwX0_after_0 ++ []
theorem dksX0_after_0 : cX0_after.data.toList.drop 0 = dktX0_after_0 := by decide +kernel
theorem dX0_after_0 : decode cX0_after 0 = .ok (.aload_n 0, 1) := dk_42 (dk_at dksX0_after_0 0 rfl rfl)
theorem dX0_after_1 : decode cX0_after 1 = .ok (.getfield 13, 3) := dk_180 0 13 (dk_at dksX0_after_0 1 rfl rfl)
theorem dX0_after_4 : decode cX0_after 4 = .ok (.iconst 0, 1) := dk_3 (dk_at dksX0_after_0 4 rfl rfl)
theorem dX0_after_5 : decode cX0_after 5 = .ok (.aaload, 1) := dk_50 (dk_at dksX0_after_0 5 rfl rfl)
theorem dX0_after_6 : decode cX0_after 6 = .ok (.aload_n 0, 1) := dk_42 (dk_at dksX0_after_0 6 rfl rfl)
theorem dX0_after_7 : decode cX0_after 7 = .ok (.getfield 13, 3) := dk_180 0 13 (dk_at dksX0_after_0 7 rfl rfl)
theorem dX0_after_10 : decode cX0_after 10 = .ok (.iconst 1, 1) := dk_4 (dk_at dksX0_after_0 10 rfl rfl)
theorem dX0_after_11 : decode cX0_after 11 = .ok (.aaload, 1) := dk_50 (dk_at dksX0_after_0 11 rfl rfl)
theorem dX0_after_12 : decode cX0_after 12 = .ok (.invokevirtual 54, 3) := dk_182 0 54 (dk_at dksX0_after_0 12 rfl rfl)
theorem dX0_after_15 : decode cX0_after 15 = .ok (.ireturn, 1) := dk_172 (dk_at dksX0_after_0 15 rfl rfl)
abbrev cX0_order : ByteArray := prog_4_method_12_code
def yX0_order : MethodName := ⟨RX0, "order", "()I"⟩
def dkwX0_order_1 : List UInt8 := [27, 158, 0, 7, 4, 167, 0, 4, 3, 172]
abbrev dktX0_order_1 : List UInt8 := dkwX0_order_1 ++ []
def dkwX0_order_0 : List UInt8 := [42, 180, 0, 13, 3, 50, 42, 180, 0, 13, 4, 50, 182, 0, 57, 60, 27, 156, 0, 7, 2, 167, 0, 12]
abbrev dktX0_order_0 : List UInt8 := dkwX0_order_0 ++ dktX0_order_1
theorem dksX0_order_0 : cX0_order.data.toList.drop 0 = dktX0_order_0 := by decide +kernel
theorem dksX0_order_1 : cX0_order.data.toList.drop 24 = dktX0_order_1 := dk_seg dksX0_order_0 24 rfl rfl
theorem dX0_order_0 : decode cX0_order 0 = .ok (.aload_n 0, 1) := dk_42 (dk_at dksX0_order_0 0 rfl rfl)
theorem dX0_order_1 : decode cX0_order 1 = .ok (.getfield 13, 3) := dk_180 0 13 (dk_at dksX0_order_0 1 rfl rfl)
theorem dX0_order_4 : decode cX0_order 4 = .ok (.iconst 0, 1) := dk_3 (dk_at dksX0_order_0 4 rfl rfl)
theorem dX0_order_5 : decode cX0_order 5 = .ok (.aaload, 1) := dk_50 (dk_at dksX0_order_0 5 rfl rfl)
theorem dX0_order_6 : decode cX0_order 6 = .ok (.aload_n 0, 1) := dk_42 (dk_at dksX0_order_0 6 rfl rfl)
theorem dX0_order_7 : decode cX0_order 7 = .ok (.getfield 13, 3) := dk_180 0 13 (dk_at dksX0_order_0 7 rfl rfl)
theorem dX0_order_10 : decode cX0_order 10 = .ok (.iconst 1, 1) := dk_4 (dk_at dksX0_order_0 10 rfl rfl)
theorem dX0_order_11 : decode cX0_order 11 = .ok (.aaload, 1) := dk_50 (dk_at dksX0_order_0 11 rfl rfl)
theorem dX0_order_12 : decode cX0_order 12 = .ok (.invokevirtual 57, 3) := dk_182 0 57 (dk_at dksX0_order_0 12 rfl rfl)
theorem dX0_order_15 : decode cX0_order 15 = .ok (.istore_n 1, 1) := dk_60 (dk_at dksX0_order_0 15 rfl rfl)
theorem dX0_order_16 : decode cX0_order 16 = .ok (.iload_n 1, 1) := dk_27 (dk_at dksX0_order_0 16 rfl rfl)
theorem dX0_order_17 : decode cX0_order 17 = .ok (.ifCond .ge 7, 3) := dk_156 0 7 (dk_at dksX0_order_0 17 rfl rfl)
theorem dX0_order_20 : decode cX0_order 20 = .ok (.iconst (-1), 1) := dk_2 (dk_at dksX0_order_0 20 rfl rfl)
theorem dX0_order_21 : decode cX0_order 21 = .ok (.goto 12, 3) := dk_167 0 12 (dk_at dksX0_order_0 21 rfl rfl)
theorem dX0_order_24 : decode cX0_order 24 = .ok (.iload_n 1, 1) := dk_27 (dk_at dksX0_order_1 0 rfl rfl)
theorem dX0_order_25 : decode cX0_order 25 = .ok (.ifCond .le 7, 3) := dk_158 0 7 (dk_at dksX0_order_1 1 rfl rfl)
theorem dX0_order_28 : decode cX0_order 28 = .ok (.iconst 1, 1) := dk_4 (dk_at dksX0_order_1 4 rfl rfl)
theorem dX0_order_29 : decode cX0_order 29 = .ok (.goto 4, 3) := dk_167 0 4 (dk_at dksX0_order_1 5 rfl rfl)
theorem dX0_order_32 : decode cX0_order 32 = .ok (.iconst 0, 1) := dk_3 (dk_at dksX0_order_1 8 rfl rfl)
theorem dX0_order_33 : decode cX0_order 33 = .ok (.ireturn, 1) := dk_172 (dk_at dksX0_order_1 9 rfl rfl)
abbrev cX0_milli : ByteArray := prog_4_method_13_code
def yX0_milli : MethodName := ⟨RX0, "milli", "(I)J"⟩
def dkwX0_milli_1 : List UInt8 := [148, 156, 0, 7, 9, 167, 0, 14, 42, 180, 0, 13, 27, 4, 126, 50, 182, 0, 65, 173]
abbrev dktX0_milli_1 : List UInt8 := dkwX0_milli_1 ++ []
def dkwX0_milli_0 : List UInt8 := [42, 180, 0, 13, 27, 4, 126, 50, 182, 0, 27, 65, 32, 20, 0, 61, 148, 157, 0, 11, 32, 20, 0, 63]
abbrev dktX0_milli_0 : List UInt8 := dkwX0_milli_0 ++ dktX0_milli_1
theorem dksX0_milli_0 : cX0_milli.data.toList.drop 0 = dktX0_milli_0 := by decide +kernel
theorem dksX0_milli_1 : cX0_milli.data.toList.drop 24 = dktX0_milli_1 := dk_seg dksX0_milli_0 24 rfl rfl
theorem dX0_milli_0 : decode cX0_milli 0 = .ok (.aload_n 0, 1) := dk_42 (dk_at dksX0_milli_0 0 rfl rfl)
theorem dX0_milli_1 : decode cX0_milli 1 = .ok (.getfield 13, 3) := dk_180 0 13 (dk_at dksX0_milli_0 1 rfl rfl)
theorem dX0_milli_4 : decode cX0_milli 4 = .ok (.iload_n 1, 1) := dk_27 (dk_at dksX0_milli_0 4 rfl rfl)
theorem dX0_milli_5 : decode cX0_milli 5 = .ok (.iconst 1, 1) := dk_4 (dk_at dksX0_milli_0 5 rfl rfl)
theorem dX0_milli_6 : decode cX0_milli 6 = .ok (.iand, 1) := dk_126 (dk_at dksX0_milli_0 6 rfl rfl)
theorem dX0_milli_7 : decode cX0_milli 7 = .ok (.aaload, 1) := dk_50 (dk_at dksX0_milli_0 7 rfl rfl)
theorem dX0_milli_8 : decode cX0_milli 8 = .ok (.invokevirtual 27, 3) := dk_182 0 27 (dk_at dksX0_milli_0 8 rfl rfl)
theorem dX0_milli_11 : decode cX0_milli 11 = .ok (.lstore_n 2, 1) := dk_65 (dk_at dksX0_milli_0 11 rfl rfl)
theorem dX0_milli_12 : decode cX0_milli 12 = .ok (.lload_n 2, 1) := dk_32 (dk_at dksX0_milli_0 12 rfl rfl)
theorem dX0_milli_13 : decode cX0_milli 13 = .ok (.ldc2_w 61, 3) := dk_20 0 61 (dk_at dksX0_milli_0 13 rfl rfl)
theorem dX0_milli_16 : decode cX0_milli 16 = .ok (.lcmp, 1) := dk_148 (dk_at dksX0_milli_0 16 rfl rfl)
theorem dX0_milli_17 : decode cX0_milli 17 = .ok (.ifCond .gt 11, 3) := dk_157 0 11 (dk_at dksX0_milli_0 17 rfl rfl)
theorem dX0_milli_20 : decode cX0_milli 20 = .ok (.lload_n 2, 1) := dk_32 (dk_at dksX0_milli_0 20 rfl rfl)
theorem dX0_milli_21 : decode cX0_milli 21 = .ok (.ldc2_w 63, 3) := dk_20 0 63 (dk_at dksX0_milli_0 21 rfl rfl)
theorem dX0_milli_24 : decode cX0_milli 24 = .ok (.lcmp, 1) := dk_148 (dk_at dksX0_milli_1 0 rfl rfl)
theorem dX0_milli_25 : decode cX0_milli 25 = .ok (.ifCond .ge 7, 3) := dk_156 0 7 (dk_at dksX0_milli_1 1 rfl rfl)
theorem dX0_milli_28 : decode cX0_milli 28 = .ok (.lconst 0, 1) := dk_9 (dk_at dksX0_milli_1 4 rfl rfl)
theorem dX0_milli_29 : decode cX0_milli 29 = .ok (.goto 14, 3) := dk_167 0 14 (dk_at dksX0_milli_1 5 rfl rfl)
theorem dX0_milli_32 : decode cX0_milli 32 = .ok (.aload_n 0, 1) := dk_42 (dk_at dksX0_milli_1 8 rfl rfl)
theorem dX0_milli_33 : decode cX0_milli 33 = .ok (.getfield 13, 3) := dk_180 0 13 (dk_at dksX0_milli_1 9 rfl rfl)
theorem dX0_milli_36 : decode cX0_milli 36 = .ok (.iload_n 1, 1) := dk_27 (dk_at dksX0_milli_1 12 rfl rfl)
theorem dX0_milli_37 : decode cX0_milli 37 = .ok (.iconst 1, 1) := dk_4 (dk_at dksX0_milli_1 13 rfl rfl)
theorem dX0_milli_38 : decode cX0_milli 38 = .ok (.iand, 1) := dk_126 (dk_at dksX0_milli_1 14 rfl rfl)
theorem dX0_milli_39 : decode cX0_milli 39 = .ok (.aaload, 1) := dk_50 (dk_at dksX0_milli_1 15 rfl rfl)
theorem dX0_milli_40 : decode cX0_milli 40 = .ok (.invokevirtual 65, 3) := dk_182 0 65 (dk_at dksX0_milli_1 16 rfl rfl)
theorem dX0_milli_43 : decode cX0_milli 43 = .ok (.lreturn, 1) := dk_173 (dk_at dksX0_milli_1 19 rfl rfl)
theorem q5 : (Jvm.Cond.initialized "InstantDesk") ∈ lw_all := lw_g (lw_at lw_m1 1 rfl) rfl
theorem q16 : (Jvm.Cond.instantiable "InstantDesk" (1 : Nat)) ∈ lw_all := lw_g (lw_at lw_m1 12 rfl) rfl
theorem q18 : (Jvm.Cond.instanceMethod ({ cls := "InstantDesk", name := "<init>", desc := "()V" } : Jvm.MethodName)) ∈ lw_all := lw_g (lw_at lw_m1 14 rfl) rfl
theorem q19 : (Jvm.Cond.code ({ cls := "InstantDesk", name := "<init>", desc := "()V" } : Jvm.MethodName) prog_4_method_1_code (1 : Nat) (Option.none : Option Jvm.ClassFile.FieldType)) ∈ lw_all := lw_g (lw_at lw_m1 15 rfl) rfl
theorem q20 : (Jvm.Cond.methodLink "InstantDesk" (1 : Nat) ({ cls := "java/lang/Object", name := "<init>", desc := "()V" } : Jvm.MethodName)) ∈ lw_all := lw_g (lw_at lw_m1 16 rfl) rfl
theorem q23 : (Jvm.Cond.classLink "InstantDesk" (7 : Nat) "Instant") ∈ lw_all := lw_g (lw_at lw_m1 19 rfl) rfl
theorem q25 : (Jvm.Cond.methodLink "InstantDesk" (9 : Nat) ({ cls := "Instant", name := "ofEpochSecond", desc := "(JJ)LInstant;" } : Jvm.MethodName)) ∈ lw_all := lw_g (lw_at lw_m1 21 rfl) rfl
theorem q145 : (Jvm.Cond.fieldLink "InstantDesk" (13 : Nat) "InstantDesk" "at" "[LInstant;") ∈ lw_all := lw_g (lw_at lw_m1 141 rfl) rfl
theorem q146 : (Jvm.Cond.laysFinal "InstantDesk" "InstantDesk" "at" "[LInstant;") ∈ lw_all := lw_g (lw_at lw_m1 142 rfl) rfl
theorem q147 : (Jvm.Cond.soleField "InstantDesk" "at") ∈ lw_all := lw_g (lw_at lw_m1 143 rfl) rfl
theorem q148 : (Jvm.Cond.superclass "InstantDesk" "java/lang/Object") ∈ lw_all := lw_g (lw_at lw_m1 144 rfl) rfl
theorem q150 : (Jvm.Cond.instanceMethod ({ cls := "InstantDesk", name := "set", desc := "(IIII)V" } : Jvm.MethodName)) ∈ lw_all := lw_g (lw_at lw_m1 146 rfl) rfl
theorem q151 : (Jvm.Cond.selects "InstantDesk" ({ cls := "InstantDesk", name := "set", desc := "(IIII)V" } : Jvm.MethodName) ({ cls := "InstantDesk", name := "set", desc := "(IIII)V" } : Jvm.MethodName)) ∈ lw_all := lw_g (lw_at lw_m1 147 rfl) rfl
theorem q152 : (Jvm.Cond.code ({ cls := "InstantDesk", name := "set", desc := "(IIII)V" } : Jvm.MethodName) prog_4_method_3_code (5 : Nat) (Option.none : Option Jvm.ClassFile.FieldType)) ∈ lw_all := lw_g (lw_at lw_m1 148 rfl) rfl
theorem q153 : (Jvm.Cond.methodLink "InstantDesk" (23 : Nat) ({ cls := "InstantDesk", name := "second", desc := "(II)J" } : Jvm.MethodName)) ∈ lw_all := lw_g (lw_at lw_m1 149 rfl) rfl
theorem q154 : (Jvm.Cond.static ({ cls := "InstantDesk", name := "second", desc := "(II)J" } : Jvm.MethodName)) ∈ lw_all := lw_g (lw_at lw_m1 150 rfl) rfl
theorem q155 : (Jvm.Cond.code ({ cls := "InstantDesk", name := "second", desc := "(II)J" } : Jvm.MethodName) prog_4_method_2_code (2 : Nat) (Option.some Jvm.ClassFile.FieldType.long)) ∈ lw_all := lw_g (lw_at lw_m1 151 rfl) rfl
theorem q156 : (Jvm.Cond.constantLong "InstantDesk" (19 : Nat) (4294967295 : Int64)) ∈ lw_all := lw_g (lw_at lw_m1 152 rfl) rfl
theorem q157 : (Jvm.Cond.constantLong "InstantDesk" (21 : Nat) (31000000000000000 : Int64)) ∈ lw_all := lw_g (lw_at lw_m1 153 rfl) rfl
theorem q159 : (Jvm.Cond.instanceMethod ({ cls := "InstantDesk", name := "seconds", desc := "(II)Z" } : Jvm.MethodName)) ∈ lw_all := lw_g (lw_at lw_m1 155 rfl) rfl
theorem q160 : (Jvm.Cond.selects "InstantDesk" ({ cls := "InstantDesk", name := "seconds", desc := "(II)Z" } : Jvm.MethodName) ({ cls := "InstantDesk", name := "seconds", desc := "(II)Z" } : Jvm.MethodName)) ∈ lw_all := lw_g (lw_at lw_m1 156 rfl) rfl
theorem q161 : (Jvm.Cond.code ({ cls := "InstantDesk", name := "seconds", desc := "(II)Z" } : Jvm.MethodName) prog_4_method_4_code (5 : Nat) (Option.some Jvm.ClassFile.FieldType.boolean)) ∈ lw_all := lw_g (lw_at lw_m1 157 rfl) rfl
theorem q162 : (Jvm.Cond.methodLink "InstantDesk" (27 : Nat) ({ cls := "Instant", name := "getEpochSecond", desc := "()J" } : Jvm.MethodName)) ∈ lw_all := lw_g (lw_at lw_m1 158 rfl) rfl
theorem q166 : (Jvm.Cond.constantLong "InstantDesk" (31 : Nat) (-31000000000000000 : Int64)) ∈ lw_all := lw_g (lw_at lw_m1 162 rfl) rfl
theorem q167 : (Jvm.Cond.methodLink "InstantDesk" (33 : Nat) ({ cls := "Instant", name := "plusSeconds", desc := "(J)LInstant;" } : Jvm.MethodName)) ∈ lw_all := lw_g (lw_at lw_m1 163 rfl) rfl
theorem q177 : (Jvm.Cond.instanceMethod ({ cls := "InstantDesk", name := "millis", desc := "(II)Z" } : Jvm.MethodName)) ∈ lw_all := lw_g (lw_at lw_m1 173 rfl) rfl
theorem q178 : (Jvm.Cond.selects "InstantDesk" ({ cls := "InstantDesk", name := "millis", desc := "(II)Z" } : Jvm.MethodName) ({ cls := "InstantDesk", name := "millis", desc := "(II)Z" } : Jvm.MethodName)) ∈ lw_all := lw_g (lw_at lw_m1 174 rfl) rfl
theorem q179 : (Jvm.Cond.code ({ cls := "InstantDesk", name := "millis", desc := "(II)Z" } : Jvm.MethodName) prog_4_method_5_code (5 : Nat) (Option.some Jvm.ClassFile.FieldType.boolean)) ∈ lw_all := lw_g (lw_at lw_m1 175 rfl) rfl
theorem q180 : (Jvm.Cond.methodLink "InstantDesk" (37 : Nat) ({ cls := "Instant", name := "plusMillis", desc := "(J)LInstant;" } : Jvm.MethodName)) ∈ lw_all := lw_g (lw_at lw_m1 176 rfl) rfl
theorem q187 : (Jvm.Cond.instanceMethod ({ cls := "InstantDesk", name := "nanos", desc := "(II)Z" } : Jvm.MethodName)) ∈ lw_all := lw_g (lw_at lw_m1 183 rfl) rfl
theorem q188 : (Jvm.Cond.selects "InstantDesk" ({ cls := "InstantDesk", name := "nanos", desc := "(II)Z" } : Jvm.MethodName) ({ cls := "InstantDesk", name := "nanos", desc := "(II)Z" } : Jvm.MethodName)) ∈ lw_all := lw_g (lw_at lw_m1 184 rfl) rfl
theorem q189 : (Jvm.Cond.code ({ cls := "InstantDesk", name := "nanos", desc := "(II)Z" } : Jvm.MethodName) prog_4_method_6_code (5 : Nat) (Option.some Jvm.ClassFile.FieldType.boolean)) ∈ lw_all := lw_g (lw_at lw_m1 185 rfl) rfl
theorem q190 : (Jvm.Cond.methodLink "InstantDesk" (40 : Nat) ({ cls := "Instant", name := "plusNanos", desc := "(J)LInstant;" } : Jvm.MethodName)) ∈ lw_all := lw_g (lw_at lw_m1 186 rfl) rfl
theorem q195 : (Jvm.Cond.instanceMethod ({ cls := "InstantDesk", name := "ofMilli", desc := "(III)V" } : Jvm.MethodName)) ∈ lw_all := lw_g (lw_at lw_m1 191 rfl) rfl
theorem q196 : (Jvm.Cond.selects "InstantDesk" ({ cls := "InstantDesk", name := "ofMilli", desc := "(III)V" } : Jvm.MethodName) ({ cls := "InstantDesk", name := "ofMilli", desc := "(III)V" } : Jvm.MethodName)) ∈ lw_all := lw_g (lw_at lw_m1 192 rfl) rfl
theorem q197 : (Jvm.Cond.code ({ cls := "InstantDesk", name := "ofMilli", desc := "(III)V" } : Jvm.MethodName) prog_4_method_7_code (4 : Nat) (Option.none : Option Jvm.ClassFile.FieldType)) ∈ lw_all := lw_g (lw_at lw_m1 193 rfl) rfl
theorem q198 : (Jvm.Cond.methodLink "InstantDesk" (43 : Nat) ({ cls := "Instant", name := "ofEpochMilli", desc := "(J)LInstant;" } : Jvm.MethodName)) ∈ lw_all := lw_g (lw_at lw_m1 194 rfl) rfl
theorem q203 : (Jvm.Cond.instanceMethod ({ cls := "InstantDesk", name := "whole", desc := "(I)J" } : Jvm.MethodName)) ∈ lw_all := lw_g (lw_at lw_m1 199 rfl) rfl
theorem q204 : (Jvm.Cond.selects "InstantDesk" ({ cls := "InstantDesk", name := "whole", desc := "(I)J" } : Jvm.MethodName) ({ cls := "InstantDesk", name := "whole", desc := "(I)J" } : Jvm.MethodName)) ∈ lw_all := lw_g (lw_at lw_m1 200 rfl) rfl
theorem q205 : (Jvm.Cond.code ({ cls := "InstantDesk", name := "whole", desc := "(I)J" } : Jvm.MethodName) prog_4_method_8_code (2 : Nat) (Option.some Jvm.ClassFile.FieldType.long)) ∈ lw_all := lw_g (lw_at lw_m1 201 rfl) rfl
theorem q207 : (Jvm.Cond.instanceMethod ({ cls := "InstantDesk", name := "nano", desc := "(I)I" } : Jvm.MethodName)) ∈ lw_all := lw_g (lw_at lw_m1 203 rfl) rfl
theorem q208 : (Jvm.Cond.selects "InstantDesk" ({ cls := "InstantDesk", name := "nano", desc := "(I)I" } : Jvm.MethodName) ({ cls := "InstantDesk", name := "nano", desc := "(I)I" } : Jvm.MethodName)) ∈ lw_all := lw_g (lw_at lw_m1 204 rfl) rfl
theorem q209 : (Jvm.Cond.code ({ cls := "InstantDesk", name := "nano", desc := "(I)I" } : Jvm.MethodName) prog_4_method_9_code (2 : Nat) (Option.some Jvm.ClassFile.FieldType.int)) ∈ lw_all := lw_g (lw_at lw_m1 205 rfl) rfl
theorem q210 : (Jvm.Cond.methodLink "InstantDesk" (46 : Nat) ({ cls := "Instant", name := "getNano", desc := "()I" } : Jvm.MethodName)) ∈ lw_all := lw_g (lw_at lw_m1 206 rfl) rfl
theorem q215 : (Jvm.Cond.instanceMethod ({ cls := "InstantDesk", name := "before", desc := "()Z" } : Jvm.MethodName)) ∈ lw_all := lw_g (lw_at lw_m1 211 rfl) rfl
theorem q216 : (Jvm.Cond.selects "InstantDesk" ({ cls := "InstantDesk", name := "before", desc := "()Z" } : Jvm.MethodName) ({ cls := "InstantDesk", name := "before", desc := "()Z" } : Jvm.MethodName)) ∈ lw_all := lw_g (lw_at lw_m1 212 rfl) rfl
theorem q217 : (Jvm.Cond.code ({ cls := "InstantDesk", name := "before", desc := "()Z" } : Jvm.MethodName) prog_4_method_10_code (1 : Nat) (Option.some Jvm.ClassFile.FieldType.boolean)) ∈ lw_all := lw_g (lw_at lw_m1 213 rfl) rfl
theorem q218 : (Jvm.Cond.methodLink "InstantDesk" (50 : Nat) ({ cls := "Instant", name := "isBefore", desc := "(LInstant;)Z" } : Jvm.MethodName)) ∈ lw_all := lw_g (lw_at lw_m1 214 rfl) rfl
theorem q230 : (Jvm.Cond.instanceMethod ({ cls := "InstantDesk", name := "after", desc := "()Z" } : Jvm.MethodName)) ∈ lw_all := lw_g (lw_at lw_m1 226 rfl) rfl
theorem q231 : (Jvm.Cond.selects "InstantDesk" ({ cls := "InstantDesk", name := "after", desc := "()Z" } : Jvm.MethodName) ({ cls := "InstantDesk", name := "after", desc := "()Z" } : Jvm.MethodName)) ∈ lw_all := lw_g (lw_at lw_m1 227 rfl) rfl
theorem q232 : (Jvm.Cond.code ({ cls := "InstantDesk", name := "after", desc := "()Z" } : Jvm.MethodName) prog_4_method_11_code (1 : Nat) (Option.some Jvm.ClassFile.FieldType.boolean)) ∈ lw_all := lw_g (lw_at lw_m1 228 rfl) rfl
theorem q233 : (Jvm.Cond.methodLink "InstantDesk" (54 : Nat) ({ cls := "Instant", name := "isAfter", desc := "(LInstant;)Z" } : Jvm.MethodName)) ∈ lw_all := lw_g (lw_at lw_m1 229 rfl) rfl
theorem q238 : (Jvm.Cond.instanceMethod ({ cls := "InstantDesk", name := "order", desc := "()I" } : Jvm.MethodName)) ∈ lw_all := lw_g (lw_at lw_m1 234 rfl) rfl
theorem q239 : (Jvm.Cond.selects "InstantDesk" ({ cls := "InstantDesk", name := "order", desc := "()I" } : Jvm.MethodName) ({ cls := "InstantDesk", name := "order", desc := "()I" } : Jvm.MethodName)) ∈ lw_all := lw_g (lw_at lw_m1 235 rfl) rfl
theorem q240 : (Jvm.Cond.code ({ cls := "InstantDesk", name := "order", desc := "()I" } : Jvm.MethodName) prog_4_method_12_code (2 : Nat) (Option.some Jvm.ClassFile.FieldType.int)) ∈ lw_all := lw_g (lw_at lw_m1 236 rfl) rfl
theorem q241 : (Jvm.Cond.methodLink "InstantDesk" (57 : Nat) ({ cls := "Instant", name := "compareTo", desc := "(LInstant;)I" } : Jvm.MethodName)) ∈ lw_all := lw_g (lw_at lw_m1 237 rfl) rfl
theorem q243 : (Jvm.Cond.instanceMethod ({ cls := "InstantDesk", name := "milli", desc := "(I)J" } : Jvm.MethodName)) ∈ lw_all := lw_g (lw_at lw_m1 239 rfl) rfl
theorem q244 : (Jvm.Cond.selects "InstantDesk" ({ cls := "InstantDesk", name := "milli", desc := "(I)J" } : Jvm.MethodName) ({ cls := "InstantDesk", name := "milli", desc := "(I)J" } : Jvm.MethodName)) ∈ lw_all := lw_g (lw_at lw_m2 0 rfl) rfl
theorem q245 : (Jvm.Cond.code ({ cls := "InstantDesk", name := "milli", desc := "(I)J" } : Jvm.MethodName) prog_4_method_13_code (4 : Nat) (Option.some Jvm.ClassFile.FieldType.long)) ∈ lw_all := lw_g (lw_at lw_m2 1 rfl) rfl
theorem q246 : (Jvm.Cond.constantLong "InstantDesk" (61 : Nat) (9000000000000000 : Int64)) ∈ lw_all := lw_g (lw_at lw_m2 2 rfl) rfl
theorem q247 : (Jvm.Cond.constantLong "InstantDesk" (63 : Nat) (-9000000000000000 : Int64)) ∈ lw_all := lw_g (lw_at lw_m2 3 rfl) rfl
theorem q248 : (Jvm.Cond.methodLink "InstantDesk" (65 : Nat) ({ cls := "Instant", name := "toEpochMilli", desc := "()J" } : Jvm.MethodName)) ∈ lw_all := lw_g (lw_at lw_m2 4 rfl) rfl
theorem in_X0 : ∀ w ∈ wsX00, w ∈ lw_all := lw_in wsX00 [146] (by decide +kernel) (by decide +kernel)
end
section
theorem q4 : (Jvm.Cond.initialized "InstantDeskLaw") ∈ lw_all := lw_g (lw_at lw_m1 0 rfl) rfl
set_option maxRecDepth 100000
theorem q15 : (Jvm.Cond.classLink "InstantDeskLaw" (7 : Nat) "InstantDesk") ∈ lw_all := lw_g (lw_at lw_m1 11 rfl) rfl
theorem q17 : (Jvm.Cond.methodLink "InstantDeskLaw" (9 : Nat) ({ cls := "InstantDesk", name := "<init>", desc := "()V" } : Jvm.MethodName)) ∈ lw_all := lw_g (lw_at lw_m1 13 rfl) rfl
theorem q149 : (Jvm.Cond.methodLink "InstantDeskLaw" (13 : Nat) ({ cls := "InstantDesk", name := "set", desc := "(IIII)V" } : Jvm.MethodName)) ∈ lw_all := lw_g (lw_at lw_m1 145 rfl) rfl
theorem q158 : (Jvm.Cond.methodLink "InstantDeskLaw" (18 : Nat) ({ cls := "InstantDesk", name := "seconds", desc := "(II)Z" } : Jvm.MethodName)) ∈ lw_all := lw_g (lw_at lw_m1 154 rfl) rfl
theorem q176 : (Jvm.Cond.methodLink "InstantDeskLaw" (23 : Nat) ({ cls := "InstantDesk", name := "millis", desc := "(II)Z" } : Jvm.MethodName)) ∈ lw_all := lw_g (lw_at lw_m1 172 rfl) rfl
theorem q186 : (Jvm.Cond.methodLink "InstantDeskLaw" (27 : Nat) ({ cls := "InstantDesk", name := "nanos", desc := "(II)Z" } : Jvm.MethodName)) ∈ lw_all := lw_g (lw_at lw_m1 182 rfl) rfl
theorem q194 : (Jvm.Cond.methodLink "InstantDeskLaw" (31 : Nat) ({ cls := "InstantDesk", name := "ofMilli", desc := "(III)V" } : Jvm.MethodName)) ∈ lw_all := lw_g (lw_at lw_m1 190 rfl) rfl
theorem q202 : (Jvm.Cond.methodLink "InstantDeskLaw" (36 : Nat) ({ cls := "InstantDesk", name := "whole", desc := "(I)J" } : Jvm.MethodName)) ∈ lw_all := lw_g (lw_at lw_m1 198 rfl) rfl
theorem q206 : (Jvm.Cond.methodLink "InstantDeskLaw" (41 : Nat) ({ cls := "InstantDesk", name := "nano", desc := "(I)I" } : Jvm.MethodName)) ∈ lw_all := lw_g (lw_at lw_m1 202 rfl) rfl
theorem q214 : (Jvm.Cond.methodLink "InstantDeskLaw" (46 : Nat) ({ cls := "InstantDesk", name := "before", desc := "()Z" } : Jvm.MethodName)) ∈ lw_all := lw_g (lw_at lw_m1 210 rfl) rfl
theorem q229 : (Jvm.Cond.methodLink "InstantDeskLaw" (51 : Nat) ({ cls := "InstantDesk", name := "after", desc := "()Z" } : Jvm.MethodName)) ∈ lw_all := lw_g (lw_at lw_m1 225 rfl) rfl
theorem q237 : (Jvm.Cond.methodLink "InstantDeskLaw" (55 : Nat) ({ cls := "InstantDesk", name := "order", desc := "()I" } : Jvm.MethodName)) ∈ lw_all := lw_g (lw_at lw_m1 233 rfl) rfl
theorem q242 : (Jvm.Cond.methodLink "InstantDeskLaw" (60 : Nat) ({ cls := "InstantDesk", name := "milli", desc := "(I)J" } : Jvm.MethodName)) ∈ lw_all := lw_g (lw_at lw_m1 238 rfl) rfl
theorem q260 : (Jvm.Cond.classLink "InstantDeskLaw" (10 : Nat) "InstantDeskModel") ∈ lw_all := lw_g (lw_at lw_m2 16 rfl) rfl
theorem q262 : (Jvm.Cond.methodLink "InstantDeskLaw" (12 : Nat) ({ cls := "InstantDeskModel", name := "<init>", desc := "()V" } : Jvm.MethodName)) ∈ lw_all := lw_g (lw_at lw_m2 18 rfl) rfl
theorem q274 : (Jvm.Cond.methodLink "InstantDeskLaw" (17 : Nat) ({ cls := "InstantDeskModel", name := "set", desc := "(IIII)V" } : Jvm.MethodName)) ∈ lw_all := lw_g (lw_at lw_m2 30 rfl) rfl
theorem q294 : (Jvm.Cond.methodLink "InstantDeskLaw" (22 : Nat) ({ cls := "InstantDeskModel", name := "seconds", desc := "(II)Z" } : Jvm.MethodName)) ∈ lw_all := lw_g (lw_at lw_m2 50 rfl) rfl
theorem q303 : (Jvm.Cond.methodLink "InstantDeskLaw" (26 : Nat) ({ cls := "InstantDeskModel", name := "millis", desc := "(II)Z" } : Jvm.MethodName)) ∈ lw_all := lw_g (lw_at lw_m2 59 rfl) rfl
theorem q308 : (Jvm.Cond.methodLink "InstantDeskLaw" (30 : Nat) ({ cls := "InstantDeskModel", name := "nanos", desc := "(II)Z" } : Jvm.MethodName)) ∈ lw_all := lw_g (lw_at lw_m2 64 rfl) rfl
theorem q312 : (Jvm.Cond.methodLink "InstantDeskLaw" (35 : Nat) ({ cls := "InstantDeskModel", name := "ofMilli", desc := "(III)V" } : Jvm.MethodName)) ∈ lw_all := lw_g (lw_at lw_m2 68 rfl) rfl
theorem q317 : (Jvm.Cond.methodLink "InstantDeskLaw" (40 : Nat) ({ cls := "InstantDeskModel", name := "whole", desc := "(I)J" } : Jvm.MethodName)) ∈ lw_all := lw_g (lw_at lw_m2 73 rfl) rfl
theorem q321 : (Jvm.Cond.methodLink "InstantDeskLaw" (45 : Nat) ({ cls := "InstantDeskModel", name := "nano", desc := "(I)I" } : Jvm.MethodName)) ∈ lw_all := lw_g (lw_at lw_m2 77 rfl) rfl
theorem q325 : (Jvm.Cond.methodLink "InstantDeskLaw" (50 : Nat) ({ cls := "InstantDeskModel", name := "before", desc := "()Z" } : Jvm.MethodName)) ∈ lw_all := lw_g (lw_at lw_m2 81 rfl) rfl
theorem q333 : (Jvm.Cond.methodLink "InstantDeskLaw" (54 : Nat) ({ cls := "InstantDeskModel", name := "after", desc := "()Z" } : Jvm.MethodName)) ∈ lw_all := lw_g (lw_at lw_m2 89 rfl) rfl
theorem q337 : (Jvm.Cond.methodLink "InstantDeskLaw" (59 : Nat) ({ cls := "InstantDeskModel", name := "order", desc := "()I" } : Jvm.MethodName)) ∈ lw_all := lw_g (lw_at lw_m2 93 rfl) rfl
theorem q338 : (Jvm.Cond.methodLink "InstantDeskLaw" (63 : Nat) ({ cls := "InstantDeskModel", name := "milli", desc := "(I)J" } : Jvm.MethodName)) ∈ lw_all := lw_g (lw_at lw_m2 94 rfl) rfl
/-! the law's own entry -/
set_option maxRecDepth 100000
abbrev cL_law : ByteArray := code
def dkwL_law_16 : List UInt8 := [167, 254, 134, 4, 172]
abbrev dktL_law_16 : List UInt8 := dkwL_law_16 ++ []
def dkwL_law_15 : List UInt8 := [4, 96, 46, 182, 0, 60, 44, 42, 29, 4, 96, 46, 182, 0, 63, 148, 153, 0, 5, 3, 172, 132, 3, 6]
abbrev dktL_law_15 : List UInt8 := dkwL_law_15 ++ dktL_law_16
def dkwL_law_14 : List UInt8 := [182, 0, 54, 159, 0, 42, 3, 172, 43, 182, 0, 55, 44, 182, 0, 59, 159, 0, 29, 3, 172, 43, 42, 29]
abbrev dktL_law_14 : List UInt8 := dkwL_law_14 ++ dktL_law_15
def dkwL_law_13 : List UInt8 := [159, 0, 68, 3, 172, 43, 182, 0, 46, 44, 182, 0, 50, 159, 0, 55, 3, 172, 43, 182, 0, 51, 44]
abbrev dktL_law_13 : List UInt8 := dkwL_law_13 ++ dktL_law_14
def dkwL_law_12 : List UInt8 := [153, 0, 91, 3, 172, 43, 42, 29, 4, 96, 46, 182, 0, 41, 44, 42, 29, 4, 96, 46, 182, 0, 45]
abbrev dktL_law_12 : List UInt8 := dkwL_law_12 ++ dktL_law_13
def dkwL_law_11 : List UInt8 := [167, 0, 113, 43, 42, 29, 4, 96, 46, 182, 0, 36, 44, 42, 29, 4, 96, 46, 182, 0, 40, 148]
abbrev dktL_law_11 : List UInt8 := dkwL_law_11 ++ dktL_law_12
def dkwL_law_10 : List UInt8 := [182, 0, 31, 44, 42, 29, 4, 96, 46, 42, 29, 5, 96, 46, 42, 29, 6, 96, 46, 182, 0, 35]
abbrev dktL_law_10 : List UInt8 := dkwL_law_10 ++ dktL_law_11
def dkwL_law_9 : List UInt8 := [182, 0, 30, 159, 0, 156, 3, 172, 43, 42, 29, 4, 96, 46, 42, 29, 5, 96, 46, 42, 29, 6, 96, 46]
abbrev dktL_law_9 : List UInt8 := dkwL_law_9 ++ dktL_law_10
def dkwL_law_8 : List UInt8 := [29, 4, 96, 46, 42, 29, 5, 96, 46, 182, 0, 27, 44, 42, 29, 4, 96, 46, 42, 29, 5, 96, 46]
abbrev dktL_law_8 : List UInt8 := dkwL_law_8 ++ dktL_law_9
def dkwL_law_7 : List UInt8 := [182, 0, 23, 44, 42, 29, 4, 96, 46, 42, 29, 5, 96, 46, 182, 0, 26, 159, 0, 189, 3, 172, 43, 42]
abbrev dktL_law_7 : List UInt8 := dkwL_law_7 ++ dktL_law_8
def dkwL_law_6 : List UInt8 := [29, 5, 96, 46, 182, 0, 22, 159, 0, 222, 3, 172, 43, 42, 29, 4, 96, 46, 42, 29, 5, 96, 46]
abbrev dktL_law_6 : List UInt8 := dkwL_law_6 ++ dktL_law_7
def dkwL_law_5 : List UInt8 := [167, 0, 253, 43, 42, 29, 4, 96, 46, 42, 29, 5, 96, 46, 182, 0, 18, 44, 42, 29, 4, 96, 46, 42]
abbrev dktL_law_5 : List UInt8 := dkwL_law_5 ++ dktL_law_6
def dkwL_law_4 : List UInt8 := [44, 42, 29, 4, 96, 46, 42, 29, 5, 96, 46, 42, 29, 6, 96, 46, 42, 29, 7, 96, 46, 182, 0, 17]
abbrev dktL_law_4 : List UInt8 := dkwL_law_4 ++ dktL_law_5
def dkwL_law_3 : List UInt8 := [43, 42, 29, 4, 96, 46, 42, 29, 5, 96, 46, 42, 29, 6, 96, 46, 42, 29, 7, 96, 46, 182, 0, 13]
abbrev dktL_law_3 : List UInt8 := dkwL_law_3 ++ dktL_law_4
def dkwL_law_2 : List UInt8 := [170, 0, 0, 0, 0, 1, 104, 0, 0, 0, 0, 0, 0, 0, 10, 0, 0, 0, 59, 0, 0, 0, 110, 0, 0, 0, 143, 0, 0, 0, 176, 0, 0, 0, 209, 0, 0, 0, 250, 0, 0, 1, 18, 0, 0, 1, 41, 0, 0, 1, 54, 0, 0, 1, 67, 0, 0, 1, 80]
abbrev dktL_law_2 : List UInt8 := dkwL_law_2 ++ dktL_law_3
def dkwL_law_1 : List UInt8 := [163, 1, 119, 42, 29, 46, 16, 15, 126]
abbrev dktL_law_1 : List UInt8 := dkwL_law_1 ++ dktL_law_2
def dkwL_law_0 : List UInt8 := [187, 0, 7, 89, 183, 0, 9, 76, 187, 0, 10, 89, 183, 0, 12, 77, 3, 62, 29, 42, 190, 16, 6, 100]
abbrev dktL_law_0 : List UInt8 := dkwL_law_0 ++ dktL_law_1
theorem dksL_law_0 : cL_law.data.toList.drop 0 = dktL_law_0 := by decide +kernel
theorem dksL_law_1 : cL_law.data.toList.drop 24 = dktL_law_1 := dk_seg dksL_law_0 24 rfl rfl
theorem dksL_law_2 : cL_law.data.toList.drop 33 = dktL_law_2 := dk_seg dksL_law_1 9 rfl rfl
theorem dksL_law_3 : cL_law.data.toList.drop 92 = dktL_law_3 := dk_seg dksL_law_2 59 rfl rfl
theorem dksL_law_4 : cL_law.data.toList.drop 116 = dktL_law_4 := dk_seg dksL_law_3 24 rfl rfl
theorem dksL_law_5 : cL_law.data.toList.drop 140 = dktL_law_5 := dk_seg dksL_law_4 24 rfl rfl
theorem dksL_law_6 : cL_law.data.toList.drop 164 = dktL_law_6 := dk_seg dksL_law_5 24 rfl rfl
theorem dksL_law_7 : cL_law.data.toList.drop 187 = dktL_law_7 := dk_seg dksL_law_6 23 rfl rfl
theorem dksL_law_8 : cL_law.data.toList.drop 211 = dktL_law_8 := dk_seg dksL_law_7 24 rfl rfl
theorem dksL_law_9 : cL_law.data.toList.drop 234 = dktL_law_9 := dk_seg dksL_law_8 23 rfl rfl
theorem dksL_law_10 : cL_law.data.toList.drop 258 = dktL_law_10 := dk_seg dksL_law_9 24 rfl rfl
theorem dksL_law_11 : cL_law.data.toList.drop 280 = dktL_law_11 := dk_seg dksL_law_10 22 rfl rfl
theorem dksL_law_12 : cL_law.data.toList.drop 302 = dktL_law_12 := dk_seg dksL_law_11 22 rfl rfl
theorem dksL_law_13 : cL_law.data.toList.drop 325 = dktL_law_13 := dk_seg dksL_law_12 23 rfl rfl
theorem dksL_law_14 : cL_law.data.toList.drop 348 = dktL_law_14 := dk_seg dksL_law_13 23 rfl rfl
theorem dksL_law_15 : cL_law.data.toList.drop 372 = dktL_law_15 := dk_seg dksL_law_14 24 rfl rfl
theorem dksL_law_16 : cL_law.data.toList.drop 396 = dktL_law_16 := dk_seg dksL_law_15 24 rfl rfl
theorem dL_law_0 : decode cL_law 0 = .ok (.new 7, 3) := dk_187 0 7 (dk_at dksL_law_0 0 rfl rfl)
theorem dL_law_3 : decode cL_law 3 = .ok (.dup, 1) := dk_89 (dk_at dksL_law_0 3 rfl rfl)
theorem dL_law_4 : decode cL_law 4 = .ok (.invokespecial 9, 3) := dk_183 0 9 (dk_at dksL_law_0 4 rfl rfl)
theorem dL_law_7 : decode cL_law 7 = .ok (.astore_n 1, 1) := dk_76 (dk_at dksL_law_0 7 rfl rfl)
theorem dL_law_8 : decode cL_law 8 = .ok (.new 10, 3) := dk_187 0 10 (dk_at dksL_law_0 8 rfl rfl)
theorem dL_law_11 : decode cL_law 11 = .ok (.dup, 1) := dk_89 (dk_at dksL_law_0 11 rfl rfl)
theorem dL_law_12 : decode cL_law 12 = .ok (.invokespecial 12, 3) := dk_183 0 12 (dk_at dksL_law_0 12 rfl rfl)
theorem dL_law_15 : decode cL_law 15 = .ok (.astore_n 2, 1) := dk_77 (dk_at dksL_law_0 15 rfl rfl)
theorem dL_law_16 : decode cL_law 16 = .ok (.iconst 0, 1) := dk_3 (dk_at dksL_law_0 16 rfl rfl)
theorem dL_law_17 : decode cL_law 17 = .ok (.istore_n 3, 1) := dk_62 (dk_at dksL_law_0 17 rfl rfl)
theorem dL_law_18 : decode cL_law 18 = .ok (.iload_n 3, 1) := dk_29 (dk_at dksL_law_0 18 rfl rfl)
theorem dL_law_19 : decode cL_law 19 = .ok (.aload_n 0, 1) := dk_42 (dk_at dksL_law_0 19 rfl rfl)
theorem dL_law_20 : decode cL_law 20 = .ok (.arraylength, 1) := dk_190 (dk_at dksL_law_0 20 rfl rfl)
theorem dL_law_21 : decode cL_law 21 = .ok (.bipush 6, 2) := dk_16 6 (dk_at dksL_law_0 21 rfl rfl)
theorem dL_law_23 : decode cL_law 23 = .ok (.isub, 1) := dk_100 (dk_at dksL_law_0 23 rfl rfl)
theorem dL_law_24 : decode cL_law 24 = .ok (.if_icmp .gt 375, 3) := dk_163 1 119 (dk_at dksL_law_1 0 rfl rfl)
theorem dL_law_27 : decode cL_law 27 = .ok (.aload_n 0, 1) := dk_42 (dk_at dksL_law_1 3 rfl rfl)
theorem dL_law_28 : decode cL_law 28 = .ok (.iload_n 3, 1) := dk_29 (dk_at dksL_law_1 4 rfl rfl)
theorem dL_law_29 : decode cL_law 29 = .ok (.iaload, 1) := dk_46 (dk_at dksL_law_1 5 rfl rfl)
theorem dL_law_30 : decode cL_law 30 = .ok (.bipush 15, 2) := dk_16 15 (dk_at dksL_law_1 6 rfl rfl)
theorem dL_law_32 : decode cL_law 32 = .ok (.iand, 1) := dk_126 (dk_at dksL_law_1 8 rfl rfl)
theorem dL_law_33 : decode cL_law 33 = .ok (.tableswitch 360 0 10 #[59, 110, 143, 176, 209, 250, 274, 297, 310, 323, 336], 59) := by decide +kernel
theorem dL_law_92 : decode cL_law 92 = .ok (.aload_n 1, 1) := dk_43 (dk_at dksL_law_3 0 rfl rfl)
theorem dL_law_93 : decode cL_law 93 = .ok (.aload_n 0, 1) := dk_42 (dk_at dksL_law_3 1 rfl rfl)
theorem dL_law_94 : decode cL_law 94 = .ok (.iload_n 3, 1) := dk_29 (dk_at dksL_law_3 2 rfl rfl)
theorem dL_law_95 : decode cL_law 95 = .ok (.iconst 1, 1) := dk_4 (dk_at dksL_law_3 3 rfl rfl)
theorem dL_law_96 : decode cL_law 96 = .ok (.iadd, 1) := dk_96 (dk_at dksL_law_3 4 rfl rfl)
theorem dL_law_97 : decode cL_law 97 = .ok (.iaload, 1) := dk_46 (dk_at dksL_law_3 5 rfl rfl)
theorem dL_law_98 : decode cL_law 98 = .ok (.aload_n 0, 1) := dk_42 (dk_at dksL_law_3 6 rfl rfl)
theorem dL_law_99 : decode cL_law 99 = .ok (.iload_n 3, 1) := dk_29 (dk_at dksL_law_3 7 rfl rfl)
theorem dL_law_100 : decode cL_law 100 = .ok (.iconst 2, 1) := dk_5 (dk_at dksL_law_3 8 rfl rfl)
theorem dL_law_101 : decode cL_law 101 = .ok (.iadd, 1) := dk_96 (dk_at dksL_law_3 9 rfl rfl)
theorem dL_law_102 : decode cL_law 102 = .ok (.iaload, 1) := dk_46 (dk_at dksL_law_3 10 rfl rfl)
theorem dL_law_103 : decode cL_law 103 = .ok (.aload_n 0, 1) := dk_42 (dk_at dksL_law_3 11 rfl rfl)
theorem dL_law_104 : decode cL_law 104 = .ok (.iload_n 3, 1) := dk_29 (dk_at dksL_law_3 12 rfl rfl)
theorem dL_law_105 : decode cL_law 105 = .ok (.iconst 3, 1) := dk_6 (dk_at dksL_law_3 13 rfl rfl)
theorem dL_law_106 : decode cL_law 106 = .ok (.iadd, 1) := dk_96 (dk_at dksL_law_3 14 rfl rfl)
theorem dL_law_107 : decode cL_law 107 = .ok (.iaload, 1) := dk_46 (dk_at dksL_law_3 15 rfl rfl)
theorem dL_law_108 : decode cL_law 108 = .ok (.aload_n 0, 1) := dk_42 (dk_at dksL_law_3 16 rfl rfl)
theorem dL_law_109 : decode cL_law 109 = .ok (.iload_n 3, 1) := dk_29 (dk_at dksL_law_3 17 rfl rfl)
theorem dL_law_110 : decode cL_law 110 = .ok (.iconst 4, 1) := dk_7 (dk_at dksL_law_3 18 rfl rfl)
theorem dL_law_111 : decode cL_law 111 = .ok (.iadd, 1) := dk_96 (dk_at dksL_law_3 19 rfl rfl)
theorem dL_law_112 : decode cL_law 112 = .ok (.iaload, 1) := dk_46 (dk_at dksL_law_3 20 rfl rfl)
theorem dL_law_113 : decode cL_law 113 = .ok (.invokevirtual 13, 3) := dk_182 0 13 (dk_at dksL_law_3 21 rfl rfl)
theorem dL_law_116 : decode cL_law 116 = .ok (.aload_n 2, 1) := dk_44 (dk_at dksL_law_4 0 rfl rfl)
theorem dL_law_117 : decode cL_law 117 = .ok (.aload_n 0, 1) := dk_42 (dk_at dksL_law_4 1 rfl rfl)
theorem dL_law_118 : decode cL_law 118 = .ok (.iload_n 3, 1) := dk_29 (dk_at dksL_law_4 2 rfl rfl)
theorem dL_law_119 : decode cL_law 119 = .ok (.iconst 1, 1) := dk_4 (dk_at dksL_law_4 3 rfl rfl)
theorem dL_law_120 : decode cL_law 120 = .ok (.iadd, 1) := dk_96 (dk_at dksL_law_4 4 rfl rfl)
theorem dL_law_121 : decode cL_law 121 = .ok (.iaload, 1) := dk_46 (dk_at dksL_law_4 5 rfl rfl)
theorem dL_law_122 : decode cL_law 122 = .ok (.aload_n 0, 1) := dk_42 (dk_at dksL_law_4 6 rfl rfl)
theorem dL_law_123 : decode cL_law 123 = .ok (.iload_n 3, 1) := dk_29 (dk_at dksL_law_4 7 rfl rfl)
theorem dL_law_124 : decode cL_law 124 = .ok (.iconst 2, 1) := dk_5 (dk_at dksL_law_4 8 rfl rfl)
theorem dL_law_125 : decode cL_law 125 = .ok (.iadd, 1) := dk_96 (dk_at dksL_law_4 9 rfl rfl)
theorem dL_law_126 : decode cL_law 126 = .ok (.iaload, 1) := dk_46 (dk_at dksL_law_4 10 rfl rfl)
theorem dL_law_127 : decode cL_law 127 = .ok (.aload_n 0, 1) := dk_42 (dk_at dksL_law_4 11 rfl rfl)
theorem dL_law_128 : decode cL_law 128 = .ok (.iload_n 3, 1) := dk_29 (dk_at dksL_law_4 12 rfl rfl)
theorem dL_law_129 : decode cL_law 129 = .ok (.iconst 3, 1) := dk_6 (dk_at dksL_law_4 13 rfl rfl)
theorem dL_law_130 : decode cL_law 130 = .ok (.iadd, 1) := dk_96 (dk_at dksL_law_4 14 rfl rfl)
theorem dL_law_131 : decode cL_law 131 = .ok (.iaload, 1) := dk_46 (dk_at dksL_law_4 15 rfl rfl)
theorem dL_law_132 : decode cL_law 132 = .ok (.aload_n 0, 1) := dk_42 (dk_at dksL_law_4 16 rfl rfl)
theorem dL_law_133 : decode cL_law 133 = .ok (.iload_n 3, 1) := dk_29 (dk_at dksL_law_4 17 rfl rfl)
theorem dL_law_134 : decode cL_law 134 = .ok (.iconst 4, 1) := dk_7 (dk_at dksL_law_4 18 rfl rfl)
theorem dL_law_135 : decode cL_law 135 = .ok (.iadd, 1) := dk_96 (dk_at dksL_law_4 19 rfl rfl)
theorem dL_law_136 : decode cL_law 136 = .ok (.iaload, 1) := dk_46 (dk_at dksL_law_4 20 rfl rfl)
theorem dL_law_137 : decode cL_law 137 = .ok (.invokevirtual 17, 3) := dk_182 0 17 (dk_at dksL_law_4 21 rfl rfl)
theorem dL_law_140 : decode cL_law 140 = .ok (.goto 253, 3) := dk_167 0 253 (dk_at dksL_law_5 0 rfl rfl)
theorem dL_law_143 : decode cL_law 143 = .ok (.aload_n 1, 1) := dk_43 (dk_at dksL_law_5 3 rfl rfl)
theorem dL_law_144 : decode cL_law 144 = .ok (.aload_n 0, 1) := dk_42 (dk_at dksL_law_5 4 rfl rfl)
theorem dL_law_145 : decode cL_law 145 = .ok (.iload_n 3, 1) := dk_29 (dk_at dksL_law_5 5 rfl rfl)
theorem dL_law_146 : decode cL_law 146 = .ok (.iconst 1, 1) := dk_4 (dk_at dksL_law_5 6 rfl rfl)
theorem dL_law_147 : decode cL_law 147 = .ok (.iadd, 1) := dk_96 (dk_at dksL_law_5 7 rfl rfl)
theorem dL_law_148 : decode cL_law 148 = .ok (.iaload, 1) := dk_46 (dk_at dksL_law_5 8 rfl rfl)
theorem dL_law_149 : decode cL_law 149 = .ok (.aload_n 0, 1) := dk_42 (dk_at dksL_law_5 9 rfl rfl)
theorem dL_law_150 : decode cL_law 150 = .ok (.iload_n 3, 1) := dk_29 (dk_at dksL_law_5 10 rfl rfl)
theorem dL_law_151 : decode cL_law 151 = .ok (.iconst 2, 1) := dk_5 (dk_at dksL_law_5 11 rfl rfl)
theorem dL_law_152 : decode cL_law 152 = .ok (.iadd, 1) := dk_96 (dk_at dksL_law_5 12 rfl rfl)
theorem dL_law_153 : decode cL_law 153 = .ok (.iaload, 1) := dk_46 (dk_at dksL_law_5 13 rfl rfl)
theorem dL_law_154 : decode cL_law 154 = .ok (.invokevirtual 18, 3) := dk_182 0 18 (dk_at dksL_law_5 14 rfl rfl)
theorem dL_law_157 : decode cL_law 157 = .ok (.aload_n 2, 1) := dk_44 (dk_at dksL_law_5 17 rfl rfl)
theorem dL_law_158 : decode cL_law 158 = .ok (.aload_n 0, 1) := dk_42 (dk_at dksL_law_5 18 rfl rfl)
theorem dL_law_159 : decode cL_law 159 = .ok (.iload_n 3, 1) := dk_29 (dk_at dksL_law_5 19 rfl rfl)
theorem dL_law_160 : decode cL_law 160 = .ok (.iconst 1, 1) := dk_4 (dk_at dksL_law_5 20 rfl rfl)
theorem dL_law_161 : decode cL_law 161 = .ok (.iadd, 1) := dk_96 (dk_at dksL_law_5 21 rfl rfl)
theorem dL_law_162 : decode cL_law 162 = .ok (.iaload, 1) := dk_46 (dk_at dksL_law_5 22 rfl rfl)
theorem dL_law_163 : decode cL_law 163 = .ok (.aload_n 0, 1) := dk_42 (dk_at dksL_law_5 23 rfl rfl)
theorem dL_law_164 : decode cL_law 164 = .ok (.iload_n 3, 1) := dk_29 (dk_at dksL_law_6 0 rfl rfl)
theorem dL_law_165 : decode cL_law 165 = .ok (.iconst 2, 1) := dk_5 (dk_at dksL_law_6 1 rfl rfl)
theorem dL_law_166 : decode cL_law 166 = .ok (.iadd, 1) := dk_96 (dk_at dksL_law_6 2 rfl rfl)
theorem dL_law_167 : decode cL_law 167 = .ok (.iaload, 1) := dk_46 (dk_at dksL_law_6 3 rfl rfl)
theorem dL_law_168 : decode cL_law 168 = .ok (.invokevirtual 22, 3) := dk_182 0 22 (dk_at dksL_law_6 4 rfl rfl)
theorem dL_law_171 : decode cL_law 171 = .ok (.if_icmp .eq 222, 3) := dk_159 0 222 (dk_at dksL_law_6 7 rfl rfl)
theorem dL_law_174 : decode cL_law 174 = .ok (.iconst 0, 1) := dk_3 (dk_at dksL_law_6 10 rfl rfl)
theorem dL_law_175 : decode cL_law 175 = .ok (.ireturn, 1) := dk_172 (dk_at dksL_law_6 11 rfl rfl)
theorem dL_law_176 : decode cL_law 176 = .ok (.aload_n 1, 1) := dk_43 (dk_at dksL_law_6 12 rfl rfl)
theorem dL_law_177 : decode cL_law 177 = .ok (.aload_n 0, 1) := dk_42 (dk_at dksL_law_6 13 rfl rfl)
theorem dL_law_178 : decode cL_law 178 = .ok (.iload_n 3, 1) := dk_29 (dk_at dksL_law_6 14 rfl rfl)
theorem dL_law_179 : decode cL_law 179 = .ok (.iconst 1, 1) := dk_4 (dk_at dksL_law_6 15 rfl rfl)
theorem dL_law_180 : decode cL_law 180 = .ok (.iadd, 1) := dk_96 (dk_at dksL_law_6 16 rfl rfl)
theorem dL_law_181 : decode cL_law 181 = .ok (.iaload, 1) := dk_46 (dk_at dksL_law_6 17 rfl rfl)
theorem dL_law_182 : decode cL_law 182 = .ok (.aload_n 0, 1) := dk_42 (dk_at dksL_law_6 18 rfl rfl)
theorem dL_law_183 : decode cL_law 183 = .ok (.iload_n 3, 1) := dk_29 (dk_at dksL_law_6 19 rfl rfl)
theorem dL_law_184 : decode cL_law 184 = .ok (.iconst 2, 1) := dk_5 (dk_at dksL_law_6 20 rfl rfl)
theorem dL_law_185 : decode cL_law 185 = .ok (.iadd, 1) := dk_96 (dk_at dksL_law_6 21 rfl rfl)
theorem dL_law_186 : decode cL_law 186 = .ok (.iaload, 1) := dk_46 (dk_at dksL_law_6 22 rfl rfl)
theorem dL_law_187 : decode cL_law 187 = .ok (.invokevirtual 23, 3) := dk_182 0 23 (dk_at dksL_law_7 0 rfl rfl)
theorem dL_law_190 : decode cL_law 190 = .ok (.aload_n 2, 1) := dk_44 (dk_at dksL_law_7 3 rfl rfl)
theorem dL_law_191 : decode cL_law 191 = .ok (.aload_n 0, 1) := dk_42 (dk_at dksL_law_7 4 rfl rfl)
theorem dL_law_192 : decode cL_law 192 = .ok (.iload_n 3, 1) := dk_29 (dk_at dksL_law_7 5 rfl rfl)
theorem dL_law_193 : decode cL_law 193 = .ok (.iconst 1, 1) := dk_4 (dk_at dksL_law_7 6 rfl rfl)
theorem dL_law_194 : decode cL_law 194 = .ok (.iadd, 1) := dk_96 (dk_at dksL_law_7 7 rfl rfl)
theorem dL_law_195 : decode cL_law 195 = .ok (.iaload, 1) := dk_46 (dk_at dksL_law_7 8 rfl rfl)
theorem dL_law_196 : decode cL_law 196 = .ok (.aload_n 0, 1) := dk_42 (dk_at dksL_law_7 9 rfl rfl)
theorem dL_law_197 : decode cL_law 197 = .ok (.iload_n 3, 1) := dk_29 (dk_at dksL_law_7 10 rfl rfl)
theorem dL_law_198 : decode cL_law 198 = .ok (.iconst 2, 1) := dk_5 (dk_at dksL_law_7 11 rfl rfl)
theorem dL_law_199 : decode cL_law 199 = .ok (.iadd, 1) := dk_96 (dk_at dksL_law_7 12 rfl rfl)
theorem dL_law_200 : decode cL_law 200 = .ok (.iaload, 1) := dk_46 (dk_at dksL_law_7 13 rfl rfl)
theorem dL_law_201 : decode cL_law 201 = .ok (.invokevirtual 26, 3) := dk_182 0 26 (dk_at dksL_law_7 14 rfl rfl)
theorem dL_law_204 : decode cL_law 204 = .ok (.if_icmp .eq 189, 3) := dk_159 0 189 (dk_at dksL_law_7 17 rfl rfl)
theorem dL_law_207 : decode cL_law 207 = .ok (.iconst 0, 1) := dk_3 (dk_at dksL_law_7 20 rfl rfl)
theorem dL_law_208 : decode cL_law 208 = .ok (.ireturn, 1) := dk_172 (dk_at dksL_law_7 21 rfl rfl)
theorem dL_law_209 : decode cL_law 209 = .ok (.aload_n 1, 1) := dk_43 (dk_at dksL_law_7 22 rfl rfl)
theorem dL_law_210 : decode cL_law 210 = .ok (.aload_n 0, 1) := dk_42 (dk_at dksL_law_7 23 rfl rfl)
theorem dL_law_211 : decode cL_law 211 = .ok (.iload_n 3, 1) := dk_29 (dk_at dksL_law_8 0 rfl rfl)
theorem dL_law_212 : decode cL_law 212 = .ok (.iconst 1, 1) := dk_4 (dk_at dksL_law_8 1 rfl rfl)
theorem dL_law_213 : decode cL_law 213 = .ok (.iadd, 1) := dk_96 (dk_at dksL_law_8 2 rfl rfl)
theorem dL_law_214 : decode cL_law 214 = .ok (.iaload, 1) := dk_46 (dk_at dksL_law_8 3 rfl rfl)
theorem dL_law_215 : decode cL_law 215 = .ok (.aload_n 0, 1) := dk_42 (dk_at dksL_law_8 4 rfl rfl)
theorem dL_law_216 : decode cL_law 216 = .ok (.iload_n 3, 1) := dk_29 (dk_at dksL_law_8 5 rfl rfl)
theorem dL_law_217 : decode cL_law 217 = .ok (.iconst 2, 1) := dk_5 (dk_at dksL_law_8 6 rfl rfl)
theorem dL_law_218 : decode cL_law 218 = .ok (.iadd, 1) := dk_96 (dk_at dksL_law_8 7 rfl rfl)
theorem dL_law_219 : decode cL_law 219 = .ok (.iaload, 1) := dk_46 (dk_at dksL_law_8 8 rfl rfl)
theorem dL_law_220 : decode cL_law 220 = .ok (.invokevirtual 27, 3) := dk_182 0 27 (dk_at dksL_law_8 9 rfl rfl)
theorem dL_law_223 : decode cL_law 223 = .ok (.aload_n 2, 1) := dk_44 (dk_at dksL_law_8 12 rfl rfl)
theorem dL_law_224 : decode cL_law 224 = .ok (.aload_n 0, 1) := dk_42 (dk_at dksL_law_8 13 rfl rfl)
theorem dL_law_225 : decode cL_law 225 = .ok (.iload_n 3, 1) := dk_29 (dk_at dksL_law_8 14 rfl rfl)
theorem dL_law_226 : decode cL_law 226 = .ok (.iconst 1, 1) := dk_4 (dk_at dksL_law_8 15 rfl rfl)
theorem dL_law_227 : decode cL_law 227 = .ok (.iadd, 1) := dk_96 (dk_at dksL_law_8 16 rfl rfl)
theorem dL_law_228 : decode cL_law 228 = .ok (.iaload, 1) := dk_46 (dk_at dksL_law_8 17 rfl rfl)
theorem dL_law_229 : decode cL_law 229 = .ok (.aload_n 0, 1) := dk_42 (dk_at dksL_law_8 18 rfl rfl)
theorem dL_law_230 : decode cL_law 230 = .ok (.iload_n 3, 1) := dk_29 (dk_at dksL_law_8 19 rfl rfl)
theorem dL_law_231 : decode cL_law 231 = .ok (.iconst 2, 1) := dk_5 (dk_at dksL_law_8 20 rfl rfl)
theorem dL_law_232 : decode cL_law 232 = .ok (.iadd, 1) := dk_96 (dk_at dksL_law_8 21 rfl rfl)
theorem dL_law_233 : decode cL_law 233 = .ok (.iaload, 1) := dk_46 (dk_at dksL_law_8 22 rfl rfl)
theorem dL_law_234 : decode cL_law 234 = .ok (.invokevirtual 30, 3) := dk_182 0 30 (dk_at dksL_law_9 0 rfl rfl)
theorem dL_law_237 : decode cL_law 237 = .ok (.if_icmp .eq 156, 3) := dk_159 0 156 (dk_at dksL_law_9 3 rfl rfl)
theorem dL_law_240 : decode cL_law 240 = .ok (.iconst 0, 1) := dk_3 (dk_at dksL_law_9 6 rfl rfl)
theorem dL_law_241 : decode cL_law 241 = .ok (.ireturn, 1) := dk_172 (dk_at dksL_law_9 7 rfl rfl)
theorem dL_law_242 : decode cL_law 242 = .ok (.aload_n 1, 1) := dk_43 (dk_at dksL_law_9 8 rfl rfl)
theorem dL_law_243 : decode cL_law 243 = .ok (.aload_n 0, 1) := dk_42 (dk_at dksL_law_9 9 rfl rfl)
theorem dL_law_244 : decode cL_law 244 = .ok (.iload_n 3, 1) := dk_29 (dk_at dksL_law_9 10 rfl rfl)
theorem dL_law_245 : decode cL_law 245 = .ok (.iconst 1, 1) := dk_4 (dk_at dksL_law_9 11 rfl rfl)
theorem dL_law_246 : decode cL_law 246 = .ok (.iadd, 1) := dk_96 (dk_at dksL_law_9 12 rfl rfl)
theorem dL_law_247 : decode cL_law 247 = .ok (.iaload, 1) := dk_46 (dk_at dksL_law_9 13 rfl rfl)
theorem dL_law_248 : decode cL_law 248 = .ok (.aload_n 0, 1) := dk_42 (dk_at dksL_law_9 14 rfl rfl)
theorem dL_law_249 : decode cL_law 249 = .ok (.iload_n 3, 1) := dk_29 (dk_at dksL_law_9 15 rfl rfl)
theorem dL_law_250 : decode cL_law 250 = .ok (.iconst 2, 1) := dk_5 (dk_at dksL_law_9 16 rfl rfl)
theorem dL_law_251 : decode cL_law 251 = .ok (.iadd, 1) := dk_96 (dk_at dksL_law_9 17 rfl rfl)
theorem dL_law_252 : decode cL_law 252 = .ok (.iaload, 1) := dk_46 (dk_at dksL_law_9 18 rfl rfl)
theorem dL_law_253 : decode cL_law 253 = .ok (.aload_n 0, 1) := dk_42 (dk_at dksL_law_9 19 rfl rfl)
theorem dL_law_254 : decode cL_law 254 = .ok (.iload_n 3, 1) := dk_29 (dk_at dksL_law_9 20 rfl rfl)
theorem dL_law_255 : decode cL_law 255 = .ok (.iconst 3, 1) := dk_6 (dk_at dksL_law_9 21 rfl rfl)
theorem dL_law_256 : decode cL_law 256 = .ok (.iadd, 1) := dk_96 (dk_at dksL_law_9 22 rfl rfl)
theorem dL_law_257 : decode cL_law 257 = .ok (.iaload, 1) := dk_46 (dk_at dksL_law_9 23 rfl rfl)
theorem dL_law_258 : decode cL_law 258 = .ok (.invokevirtual 31, 3) := dk_182 0 31 (dk_at dksL_law_10 0 rfl rfl)
theorem dL_law_261 : decode cL_law 261 = .ok (.aload_n 2, 1) := dk_44 (dk_at dksL_law_10 3 rfl rfl)
theorem dL_law_262 : decode cL_law 262 = .ok (.aload_n 0, 1) := dk_42 (dk_at dksL_law_10 4 rfl rfl)
theorem dL_law_263 : decode cL_law 263 = .ok (.iload_n 3, 1) := dk_29 (dk_at dksL_law_10 5 rfl rfl)
theorem dL_law_264 : decode cL_law 264 = .ok (.iconst 1, 1) := dk_4 (dk_at dksL_law_10 6 rfl rfl)
theorem dL_law_265 : decode cL_law 265 = .ok (.iadd, 1) := dk_96 (dk_at dksL_law_10 7 rfl rfl)
theorem dL_law_266 : decode cL_law 266 = .ok (.iaload, 1) := dk_46 (dk_at dksL_law_10 8 rfl rfl)
theorem dL_law_267 : decode cL_law 267 = .ok (.aload_n 0, 1) := dk_42 (dk_at dksL_law_10 9 rfl rfl)
theorem dL_law_268 : decode cL_law 268 = .ok (.iload_n 3, 1) := dk_29 (dk_at dksL_law_10 10 rfl rfl)
theorem dL_law_269 : decode cL_law 269 = .ok (.iconst 2, 1) := dk_5 (dk_at dksL_law_10 11 rfl rfl)
theorem dL_law_270 : decode cL_law 270 = .ok (.iadd, 1) := dk_96 (dk_at dksL_law_10 12 rfl rfl)
theorem dL_law_271 : decode cL_law 271 = .ok (.iaload, 1) := dk_46 (dk_at dksL_law_10 13 rfl rfl)
theorem dL_law_272 : decode cL_law 272 = .ok (.aload_n 0, 1) := dk_42 (dk_at dksL_law_10 14 rfl rfl)
theorem dL_law_273 : decode cL_law 273 = .ok (.iload_n 3, 1) := dk_29 (dk_at dksL_law_10 15 rfl rfl)
theorem dL_law_274 : decode cL_law 274 = .ok (.iconst 3, 1) := dk_6 (dk_at dksL_law_10 16 rfl rfl)
theorem dL_law_275 : decode cL_law 275 = .ok (.iadd, 1) := dk_96 (dk_at dksL_law_10 17 rfl rfl)
theorem dL_law_276 : decode cL_law 276 = .ok (.iaload, 1) := dk_46 (dk_at dksL_law_10 18 rfl rfl)
theorem dL_law_277 : decode cL_law 277 = .ok (.invokevirtual 35, 3) := dk_182 0 35 (dk_at dksL_law_10 19 rfl rfl)
theorem dL_law_280 : decode cL_law 280 = .ok (.goto 113, 3) := dk_167 0 113 (dk_at dksL_law_11 0 rfl rfl)
theorem dL_law_283 : decode cL_law 283 = .ok (.aload_n 1, 1) := dk_43 (dk_at dksL_law_11 3 rfl rfl)
theorem dL_law_284 : decode cL_law 284 = .ok (.aload_n 0, 1) := dk_42 (dk_at dksL_law_11 4 rfl rfl)
theorem dL_law_285 : decode cL_law 285 = .ok (.iload_n 3, 1) := dk_29 (dk_at dksL_law_11 5 rfl rfl)
theorem dL_law_286 : decode cL_law 286 = .ok (.iconst 1, 1) := dk_4 (dk_at dksL_law_11 6 rfl rfl)
theorem dL_law_287 : decode cL_law 287 = .ok (.iadd, 1) := dk_96 (dk_at dksL_law_11 7 rfl rfl)
theorem dL_law_288 : decode cL_law 288 = .ok (.iaload, 1) := dk_46 (dk_at dksL_law_11 8 rfl rfl)
theorem dL_law_289 : decode cL_law 289 = .ok (.invokevirtual 36, 3) := dk_182 0 36 (dk_at dksL_law_11 9 rfl rfl)
theorem dL_law_292 : decode cL_law 292 = .ok (.aload_n 2, 1) := dk_44 (dk_at dksL_law_11 12 rfl rfl)
theorem dL_law_293 : decode cL_law 293 = .ok (.aload_n 0, 1) := dk_42 (dk_at dksL_law_11 13 rfl rfl)
theorem dL_law_294 : decode cL_law 294 = .ok (.iload_n 3, 1) := dk_29 (dk_at dksL_law_11 14 rfl rfl)
theorem dL_law_295 : decode cL_law 295 = .ok (.iconst 1, 1) := dk_4 (dk_at dksL_law_11 15 rfl rfl)
theorem dL_law_296 : decode cL_law 296 = .ok (.iadd, 1) := dk_96 (dk_at dksL_law_11 16 rfl rfl)
theorem dL_law_297 : decode cL_law 297 = .ok (.iaload, 1) := dk_46 (dk_at dksL_law_11 17 rfl rfl)
theorem dL_law_298 : decode cL_law 298 = .ok (.invokevirtual 40, 3) := dk_182 0 40 (dk_at dksL_law_11 18 rfl rfl)
theorem dL_law_301 : decode cL_law 301 = .ok (.lcmp, 1) := dk_148 (dk_at dksL_law_11 21 rfl rfl)
theorem dL_law_302 : decode cL_law 302 = .ok (.ifCond .eq 91, 3) := dk_153 0 91 (dk_at dksL_law_12 0 rfl rfl)
theorem dL_law_305 : decode cL_law 305 = .ok (.iconst 0, 1) := dk_3 (dk_at dksL_law_12 3 rfl rfl)
theorem dL_law_306 : decode cL_law 306 = .ok (.ireturn, 1) := dk_172 (dk_at dksL_law_12 4 rfl rfl)
theorem dL_law_307 : decode cL_law 307 = .ok (.aload_n 1, 1) := dk_43 (dk_at dksL_law_12 5 rfl rfl)
theorem dL_law_308 : decode cL_law 308 = .ok (.aload_n 0, 1) := dk_42 (dk_at dksL_law_12 6 rfl rfl)
theorem dL_law_309 : decode cL_law 309 = .ok (.iload_n 3, 1) := dk_29 (dk_at dksL_law_12 7 rfl rfl)
theorem dL_law_310 : decode cL_law 310 = .ok (.iconst 1, 1) := dk_4 (dk_at dksL_law_12 8 rfl rfl)
theorem dL_law_311 : decode cL_law 311 = .ok (.iadd, 1) := dk_96 (dk_at dksL_law_12 9 rfl rfl)
theorem dL_law_312 : decode cL_law 312 = .ok (.iaload, 1) := dk_46 (dk_at dksL_law_12 10 rfl rfl)
theorem dL_law_313 : decode cL_law 313 = .ok (.invokevirtual 41, 3) := dk_182 0 41 (dk_at dksL_law_12 11 rfl rfl)
theorem dL_law_316 : decode cL_law 316 = .ok (.aload_n 2, 1) := dk_44 (dk_at dksL_law_12 14 rfl rfl)
theorem dL_law_317 : decode cL_law 317 = .ok (.aload_n 0, 1) := dk_42 (dk_at dksL_law_12 15 rfl rfl)
theorem dL_law_318 : decode cL_law 318 = .ok (.iload_n 3, 1) := dk_29 (dk_at dksL_law_12 16 rfl rfl)
theorem dL_law_319 : decode cL_law 319 = .ok (.iconst 1, 1) := dk_4 (dk_at dksL_law_12 17 rfl rfl)
theorem dL_law_320 : decode cL_law 320 = .ok (.iadd, 1) := dk_96 (dk_at dksL_law_12 18 rfl rfl)
theorem dL_law_321 : decode cL_law 321 = .ok (.iaload, 1) := dk_46 (dk_at dksL_law_12 19 rfl rfl)
theorem dL_law_322 : decode cL_law 322 = .ok (.invokevirtual 45, 3) := dk_182 0 45 (dk_at dksL_law_12 20 rfl rfl)
theorem dL_law_325 : decode cL_law 325 = .ok (.if_icmp .eq 68, 3) := dk_159 0 68 (dk_at dksL_law_13 0 rfl rfl)
theorem dL_law_328 : decode cL_law 328 = .ok (.iconst 0, 1) := dk_3 (dk_at dksL_law_13 3 rfl rfl)
theorem dL_law_329 : decode cL_law 329 = .ok (.ireturn, 1) := dk_172 (dk_at dksL_law_13 4 rfl rfl)
theorem dL_law_330 : decode cL_law 330 = .ok (.aload_n 1, 1) := dk_43 (dk_at dksL_law_13 5 rfl rfl)
theorem dL_law_331 : decode cL_law 331 = .ok (.invokevirtual 46, 3) := dk_182 0 46 (dk_at dksL_law_13 6 rfl rfl)
theorem dL_law_334 : decode cL_law 334 = .ok (.aload_n 2, 1) := dk_44 (dk_at dksL_law_13 9 rfl rfl)
theorem dL_law_335 : decode cL_law 335 = .ok (.invokevirtual 50, 3) := dk_182 0 50 (dk_at dksL_law_13 10 rfl rfl)
theorem dL_law_338 : decode cL_law 338 = .ok (.if_icmp .eq 55, 3) := dk_159 0 55 (dk_at dksL_law_13 13 rfl rfl)
theorem dL_law_341 : decode cL_law 341 = .ok (.iconst 0, 1) := dk_3 (dk_at dksL_law_13 16 rfl rfl)
theorem dL_law_342 : decode cL_law 342 = .ok (.ireturn, 1) := dk_172 (dk_at dksL_law_13 17 rfl rfl)
theorem dL_law_343 : decode cL_law 343 = .ok (.aload_n 1, 1) := dk_43 (dk_at dksL_law_13 18 rfl rfl)
theorem dL_law_344 : decode cL_law 344 = .ok (.invokevirtual 51, 3) := dk_182 0 51 (dk_at dksL_law_13 19 rfl rfl)
theorem dL_law_347 : decode cL_law 347 = .ok (.aload_n 2, 1) := dk_44 (dk_at dksL_law_13 22 rfl rfl)
theorem dL_law_348 : decode cL_law 348 = .ok (.invokevirtual 54, 3) := dk_182 0 54 (dk_at dksL_law_14 0 rfl rfl)
theorem dL_law_351 : decode cL_law 351 = .ok (.if_icmp .eq 42, 3) := dk_159 0 42 (dk_at dksL_law_14 3 rfl rfl)
theorem dL_law_354 : decode cL_law 354 = .ok (.iconst 0, 1) := dk_3 (dk_at dksL_law_14 6 rfl rfl)
theorem dL_law_355 : decode cL_law 355 = .ok (.ireturn, 1) := dk_172 (dk_at dksL_law_14 7 rfl rfl)
theorem dL_law_356 : decode cL_law 356 = .ok (.aload_n 1, 1) := dk_43 (dk_at dksL_law_14 8 rfl rfl)
theorem dL_law_357 : decode cL_law 357 = .ok (.invokevirtual 55, 3) := dk_182 0 55 (dk_at dksL_law_14 9 rfl rfl)
theorem dL_law_360 : decode cL_law 360 = .ok (.aload_n 2, 1) := dk_44 (dk_at dksL_law_14 12 rfl rfl)
theorem dL_law_361 : decode cL_law 361 = .ok (.invokevirtual 59, 3) := dk_182 0 59 (dk_at dksL_law_14 13 rfl rfl)
theorem dL_law_364 : decode cL_law 364 = .ok (.if_icmp .eq 29, 3) := dk_159 0 29 (dk_at dksL_law_14 16 rfl rfl)
theorem dL_law_367 : decode cL_law 367 = .ok (.iconst 0, 1) := dk_3 (dk_at dksL_law_14 19 rfl rfl)
theorem dL_law_368 : decode cL_law 368 = .ok (.ireturn, 1) := dk_172 (dk_at dksL_law_14 20 rfl rfl)
theorem dL_law_369 : decode cL_law 369 = .ok (.aload_n 1, 1) := dk_43 (dk_at dksL_law_14 21 rfl rfl)
theorem dL_law_370 : decode cL_law 370 = .ok (.aload_n 0, 1) := dk_42 (dk_at dksL_law_14 22 rfl rfl)
theorem dL_law_371 : decode cL_law 371 = .ok (.iload_n 3, 1) := dk_29 (dk_at dksL_law_14 23 rfl rfl)
theorem dL_law_372 : decode cL_law 372 = .ok (.iconst 1, 1) := dk_4 (dk_at dksL_law_15 0 rfl rfl)
theorem dL_law_373 : decode cL_law 373 = .ok (.iadd, 1) := dk_96 (dk_at dksL_law_15 1 rfl rfl)
theorem dL_law_374 : decode cL_law 374 = .ok (.iaload, 1) := dk_46 (dk_at dksL_law_15 2 rfl rfl)
theorem dL_law_375 : decode cL_law 375 = .ok (.invokevirtual 60, 3) := dk_182 0 60 (dk_at dksL_law_15 3 rfl rfl)
theorem dL_law_378 : decode cL_law 378 = .ok (.aload_n 2, 1) := dk_44 (dk_at dksL_law_15 6 rfl rfl)
theorem dL_law_379 : decode cL_law 379 = .ok (.aload_n 0, 1) := dk_42 (dk_at dksL_law_15 7 rfl rfl)
theorem dL_law_380 : decode cL_law 380 = .ok (.iload_n 3, 1) := dk_29 (dk_at dksL_law_15 8 rfl rfl)
theorem dL_law_381 : decode cL_law 381 = .ok (.iconst 1, 1) := dk_4 (dk_at dksL_law_15 9 rfl rfl)
theorem dL_law_382 : decode cL_law 382 = .ok (.iadd, 1) := dk_96 (dk_at dksL_law_15 10 rfl rfl)
theorem dL_law_383 : decode cL_law 383 = .ok (.iaload, 1) := dk_46 (dk_at dksL_law_15 11 rfl rfl)
theorem dL_law_384 : decode cL_law 384 = .ok (.invokevirtual 63, 3) := dk_182 0 63 (dk_at dksL_law_15 12 rfl rfl)
theorem dL_law_387 : decode cL_law 387 = .ok (.lcmp, 1) := dk_148 (dk_at dksL_law_15 15 rfl rfl)
theorem dL_law_388 : decode cL_law 388 = .ok (.ifCond .eq 5, 3) := dk_153 0 5 (dk_at dksL_law_15 16 rfl rfl)
theorem dL_law_391 : decode cL_law 391 = .ok (.iconst 0, 1) := dk_3 (dk_at dksL_law_15 19 rfl rfl)
theorem dL_law_392 : decode cL_law 392 = .ok (.ireturn, 1) := dk_172 (dk_at dksL_law_15 20 rfl rfl)
theorem dL_law_393 : decode cL_law 393 = .ok (.iinc 3 6, 3) := dk_132 3 6 (dk_at dksL_law_15 21 rfl rfl)
theorem dL_law_396 : decode cL_law 396 = .ok (.goto (-378), 3) := dk_167 254 134 (dk_at dksL_law_16 0 rfl rfl)
theorem dL_law_399 : decode cL_law 399 = .ok (.iconst 1, 1) := dk_4 (dk_at dksL_law_16 3 rfl rfl)
theorem dL_law_400 : decode cL_law 400 = .ok (.ireturn, 1) := dk_172 (dk_at dksL_law_16 4 rfl rfl)
end
section
/-! NUMBERS: what the instructions on ints and longs answer, told by toInt; literals are for omega -/
theorem n_bm {x : Int} (h1 : -9223372036854775808 ≤ x) (h2 : x < 9223372036854775808) : x.bmod (2 ^ 64) = x := by
  apply Int.bmod_eq_of_le
  · exact h1
  · exact h2
theorem n_bm32 {x : Int} (h1 : -2147483648 ≤ x) (h2 : x < 2147483648) : x.bmod (2 ^ 32) = x := by
  apply Int.bmod_eq_of_le
  · exact h1
  · exact h2
theorem n_lo (a : Int64) : -9223372036854775808 ≤ a.toInt := a.le_toInt
theorem n_hi (a : Int64) : a.toInt < 9223372036854775808 := a.toInt_lt
theorem n_lo32 (a : Int32) : -2147483648 ≤ a.toInt := a.le_toInt
theorem n_hi32 (a : Int32) : a.toInt < 2147483648 := a.toInt_lt
theorem n_add {a b c : Int64} (h : c = a + b) (h1 : -9223372036854775808 ≤ a.toInt + b.toInt) (h2 : a.toInt + b.toInt < 9223372036854775808) : c.toInt = a.toInt + b.toInt := by
  rw [h, Int64.toInt_add, n_bm h1 h2]
theorem n_sub {a b c : Int64} (h : c = a - b) (h1 : -9223372036854775808 ≤ a.toInt - b.toInt) (h2 : a.toInt - b.toInt < 9223372036854775808) : c.toInt = a.toInt - b.toInt := by
  rw [h, Int64.toInt_sub, n_bm h1 h2]
theorem n_mul {a b c : Int64} (h : c = a * b) (h1 : -9223372036854775808 ≤ a.toInt * b.toInt) (h2 : a.toInt * b.toInt < 9223372036854775808) : c.toInt = a.toInt * b.toInt := by
  rw [h, Int64.toInt_mul, n_bm h1 h2]
theorem n_sub32 {a b c : Int32} (h : c = a - b) (h1 : -2147483648 ≤ a.toInt - b.toInt) (h2 : a.toInt - b.toInt < 2147483648) : c.toInt = a.toInt - b.toInt := by
  rw [h, Int32.toInt_sub, n_bm32 h1 h2]
theorem n_mul32 {a b c : Int32} (h : c = a * b) (h1 : -2147483648 ≤ a.toInt * b.toInt) (h2 : a.toInt * b.toInt < 2147483648) : c.toInt = a.toInt * b.toInt := by
  rw [h, Int32.toInt_mul, n_bm32 h1 h2]
theorem n_i2l {x : Int32} {c : Int64} (h : c = x.toInt64) : c.toInt = x.toInt := by
  rw [h, Int32.toInt_toInt64]
theorem n_l2i {x : Int64} {c : Int32} (h : c = x.toInt32) (h1 : -2147483648 ≤ x.toInt) (h2 : x.toInt < 2147483648) : c.toInt = x.toInt := by
  rw [h, Int64.toInt_toInt32, n_bm32 h1 h2]
/-- a quotient rounded towards zero, by a positive number -/
theorem n_td {a b : Int} : (0 ≤ a ∧ a.tdiv b = a / b) ∨ (a < 0 ∧ a.tdiv b = -((-a) / b)) := by
  rcases Int.lt_or_le a 0 with h | h
  · refine Or.inr ⟨h, ?_⟩
    have e : a.tdiv b = -((-a).tdiv b) := by rw [Int.neg_tdiv, Int.neg_neg]
    rw [e, Int.tdiv_eq_ediv_of_nonneg (by omega)]
  · exact Or.inl ⟨h, Int.tdiv_eq_ediv_of_nonneg h⟩
theorem n_tm {a b : Int} : (0 ≤ a ∧ a.tmod b = a % b) ∨ (a < 0 ∧ a.tmod b = -((-a) % b)) := by
  rcases Int.lt_or_le a 0 with h | h
  · refine Or.inr ⟨h, ?_⟩
    have e : a.tmod b = -((-a).tmod b) := by rw [Int.neg_tmod, Int.neg_neg]
    rw [e, Int.tmod_eq_emod_of_nonneg (by omega)]
  · exact Or.inl ⟨h, Int.tmod_eq_emod_of_nonneg h⟩
theorem n_div {a b c : Int64} (h : c = a / b) (k : Int) (hk : b.toInt = k) (hb : 0 < k) : (0 ≤ a.toInt ∧ c.toInt = a.toInt / k) ∨ (a.toInt < 0 ∧ c.toInt = -((-a.toInt) / k)) := by
  subst hk
  rw [h, Int64.toInt_div_of_ne_right _ _ (fun e => by rw [e] at hb; revert hb; decide)]
  exact n_td
theorem n_div32 {a b c : Int32} (h : c = a / b) (k : Int) (hk : b.toInt = k) (hb : 0 < k) : (0 ≤ a.toInt ∧ c.toInt = a.toInt / k) ∨ (a.toInt < 0 ∧ c.toInt = -((-a.toInt) / k)) := by
  subst hk
  rw [h, Int32.toInt_div_of_ne_right _ _ (fun e => by rw [e] at hb; revert hb; decide)]
  exact n_td
theorem n_em {a b : Int} (ha : 0 ≤ a) (hb : 0 < b) : a % b ≤ a := by
  have h1 := Int.mul_ediv_add_emod a b
  have h2 := Int.mul_nonneg (Int.le_of_lt hb) (Int.ediv_nonneg ha (Int.le_of_lt hb))
  omega
theorem n_rem' (a b : Int64) (hb : 0 < b.toInt) : (a - a / b * b).toInt = a.toInt.tmod b.toInt := by
  have h0 : (a / b).toInt = a.toInt.tdiv b.toInt := Int64.toInt_div_of_ne_right _ _ (fun e => by rw [e] at hb; revert hb; decide)
  rw [Int64.toInt_sub, Int64.toInt_mul, h0, Int.sub_bmod_bmod]
  have e : a.toInt - a.toInt.tdiv b.toInt * b.toInt = a.toInt.tmod b.toInt := by rw [Int.tmod_def, Int.mul_comm]
  rw [e]
  have hl := n_lo a
  have hh := n_hi a
  rcases n_tm (a := a.toInt) (b := b.toInt) with ⟨h1, h2⟩ | ⟨h1, h2⟩
  · have h3 := Int.emod_nonneg a.toInt (show b.toInt ≠ 0 by omega)
    have h4 : a.toInt % b.toInt ≤ a.toInt := n_em h1 hb
    rw [h2]
    exact n_bm (by omega) (by omega)
  · have h3 := Int.emod_nonneg (-a.toInt) (show b.toInt ≠ 0 by omega)
    have h4 : (-a.toInt) % b.toInt ≤ -a.toInt := n_em (by omega) hb
    rw [h2]
    exact n_bm (by omega) (by omega)
theorem n_rem {a b c : Int64} (h : c = a - a / b * b) (k : Int) (hk : b.toInt = k) (hb : 0 < k) : (0 ≤ a.toInt ∧ c.toInt = a.toInt % k) ∨ (a.toInt < 0 ∧ c.toInt = -((-a.toInt) % k)) := by
  subst hk
  rw [h, n_rem' a b hb]
  exact n_tm
theorem n_sg (a : Int64) : a.toBitVec.msb = decide (a.toInt < 0) := BitVec.msb_eq_toInt
theorem n_xor {a b c : Int64} (h : c = a ^^^ b) : c.toInt < 0 ↔ ((a.toInt < 0 ∧ 0 ≤ b.toInt) ∨ (0 ≤ a.toInt ∧ b.toInt < 0)) := by
  have e : c.toBitVec.msb = (a.toBitVec.msb ^^ b.toBitVec.msb) := by rw [h, Int64.toBitVec_xor, BitVec.msb_xor]
  rw [n_sg, n_sg, n_sg] at e
  by_cases h1 : a.toInt < 0 <;> by_cases h2 : b.toInt < 0 <;> by_cases h3 : c.toInt < 0 <;> simp [h1, h2, h3] at e ⊢ <;> omega
theorem n_or {a b : Int64} : a ||| b = 0 ↔ a = 0 ∧ b = 0 := Int64.or_eq_zero_iff
theorem n_lt {a b : Int64} : lg_cmp a b < 0 ↔ a.toInt < b.toInt := (lg_cmp_lt a b).trans Int64.lt_iff_toInt_lt
theorem n_gt {a b : Int64} : 0 < lg_cmp a b ↔ b.toInt < a.toInt := (lg_cmp_gt a b).trans Int64.lt_iff_toInt_lt
theorem n_le {a b : Int64} : lg_cmp a b ≤ 0 ↔ a.toInt ≤ b.toInt := (lg_cmp_le a b).trans Int64.le_iff_toInt_le
theorem n_ge {a b : Int64} : 0 ≤ lg_cmp a b ↔ b.toInt ≤ a.toInt := (lg_cmp_ge a b).trans Int64.le_iff_toInt_le
theorem n_eq {a b : Int64} : lg_cmp a b = 0 ↔ a.toInt = b.toInt := (lg_cmp_eq a b).trans Int64.toInt_inj.symm
theorem n_lt32 {a b : Int32} : a < b ↔ a.toInt < b.toInt := Int32.lt_iff_toInt_lt
theorem n_le32 {a b : Int32} : a ≤ b ↔ a.toInt ≤ b.toInt := Int32.le_iff_toInt_le
theorem n_eq32 {a b : Int32} : a = b ↔ a.toInt = b.toInt := Int32.toInt_inj.symm
theorem n_eq64 {a b : Int64} : a = b ↔ a.toInt = b.toInt := Int64.toInt_inj.symm
/-- a bit pattern of 64 bits, by its own number without sign -/
theorem n_cond (a : Int64) : (2 * a.toBitVec.toNat < 18446744073709551616 ∧ a.toInt = (a.toBitVec.toNat : Int)) ∨ (18446744073709551616 ≤ 2 * a.toBitVec.toNat ∧ a.toInt = (a.toBitVec.toNat : Int) - 18446744073709551616) := by
  have h := BitVec.toInt_eq_toNat_cond a.toBitVec
  have e : a.toBitVec.toInt = a.toInt := rfl
  rw [e] at h
  by_cases c : 2 * a.toBitVec.toNat < 2 ^ 64
  · rw [if_pos c] at h
    exact Or.inl ⟨c, h⟩
  · rw [if_neg c] at h
    exact Or.inr ⟨Nat.not_lt.mp c, h⟩
/-- the number with the upper half h and the lower half l -/
def jn (h l : Int32) : Int := h.toInt * 4294967296 + l.toInt % 4294967296
theorem n_join {h l : Int32} {a b c d f : Int64} (ha : a = h.toInt64) (hb : b = a <<< ((32 : Int32).toInt64 &&& 63)) (hc : c = l.toInt64) (hd : d = c &&& 4294967295) (hf : f = b ||| d) : f.toInt = jn h l := by
  have e32 : ((32 : Int32).toInt64 &&& 63) = (32 : Int64) := by decide
  rw [e32] at hb
  have a1 : a.toInt = h.toInt := n_i2l ha
  have c1 : c.toInt = l.toInt := n_i2l hc
  have h1 := n_lo32 h
  have h2 := n_hi32 h
  have l1 := n_lo32 l
  have l2 := n_hi32 l
  have b1 : b.toBitVec.toNat = a.toBitVec.toNat * 4294967296 % 18446744073709551616 := by
    rw [hb, Int64.toBitVec_shiftLeft]
    have e2 : (32 : Int64).toBitVec.smod 64 = 32#64 := by decide
    rw [e2, BitVec.shiftLeft_eq', BitVec.toNat_shiftLeft, Nat.shiftLeft_eq]
    rfl
  have d1 : d.toBitVec.toNat = c.toBitVec.toNat % 4294967296 := by
    rw [hd, Int64.toBitVec_and, BitVec.toNat_and]
    have e2 : (4294967295 : Int64).toBitVec.toNat = 2 ^ 32 - 1 := by decide
    rw [e2, Nat.and_two_pow_sub_one_eq_mod]
  have f1 : f.toBitVec.toNat = b.toBitVec.toNat + d.toBitVec.toNat := by
    rw [hf, Int64.toBitVec_or, BitVec.toNat_or, b1, d1]
    have e3 : a.toBitVec.toNat * 4294967296 % 18446744073709551616 = 2 ^ 32 * (a.toBitVec.toNat % 4294967296) := by omega
    rw [e3]
    exact (Nat.two_pow_add_eq_or_of_lt (i := 32) (Nat.mod_lt _ (by decide)) _).symm
  have a2 := n_cond a
  have c2 := n_cond c
  have f2 := n_cond f
  have a3 : a.toBitVec.toNat < 18446744073709551616 := a.toBitVec.isLt
  have c3 : c.toBitVec.toNat < 18446744073709551616 := c.toBitVec.isLt
  unfold jn
  generalize a.toBitVec.toNat = A at *
  generalize b.toBitVec.toNat = Bn at *
  generalize c.toBitVec.toNat = Cn at *
  generalize d.toBitVec.toNat = Dn at *
  generalize f.toBitVec.toNat = Fn at *
  omega
theorem jn_lo (h l : Int32) : -9223372036854775808 ≤ jn h l := by
  have h1 := n_lo32 h
  unfold jn
  omega
theorem jn_hi (h l : Int32) : jn h l < 9223372036854775808 := by
  have h1 := n_hi32 h
  unfold jn
  omega
/-- a place 0 or 1 -/
theorem n_ix (x : Int32) : ∃ j : Nat, j < 2 ∧ x &&& 1 = nI j := pk_andE x 1 rfl
theorem n_cl {j : Nat} (h : j < 2) : (nI j).toNatClampNeg = j := nI_clamp (by omega)
theorem n_in {j : Nat} (h : j < 2) : vp_in (nI j) 2 := vp_in_nI h (by decide)
/-! what written numbers are -/
theorem z0 : (0 : Int64).toInt = 0 := by decide +kernel
theorem z1 : (1 : Int64).toInt = 1 := by decide +kernel
theorem zn1 : (-1 : Int64).toInt = -1 := by decide +kernel
theorem z1000 : (1000 : Int64).toInt = 1000 := by decide +kernel
theorem zM : (1000000 : Int64).toInt = 1000000 := by decide +kernel
theorem zG : (1000000000 : Int64).toInt = 1000000000 := by decide +kernel
theorem zW : (4294967296 : Int64).toInt = 4294967296 := by decide +kernel
theorem zE : (31000000000000000 : Int64).toInt = 31000000000000000 := by decide +kernel
theorem zEn : (-31000000000000000 : Int64).toInt = -31000000000000000 := by decide +kernel
theorem zF : (9000000000000000 : Int64).toInt = 9000000000000000 := by decide +kernel
theorem zFn : (-9000000000000000 : Int64).toInt = -9000000000000000 := by decide +kernel
theorem zmn : (-31557014167219200 : Int64).toInt = -31557014167219200 := by decide +kernel
theorem zmx : (31556889864403199 : Int64).toInt = 31556889864403199 := by decide +kernel
theorem zmin : (-9223372036854775808 : Int64).toInt = -9223372036854775808 := by decide +kernel
theorem i0 : (0 : Int32).toInt = 0 := by decide +kernel
theorem i1 : (1 : Int32).toInt = 1 := by decide +kernel
theorem in1 : (-1 : Int32).toInt = -1 := by decide +kernel
theorem i1000 : (1000 : Int32).toInt = 1000 := by decide +kernel
theorem iM : (1000000 : Int32).toInt = 1000000 := by decide +kernel
theorem iG : (1000000000 : Int32).toInt = 1000000000 := by decide +kernel
end
section
/-! METHODS OF NUMBERS ALONE: contracts that leave the heap as it was -/
theorem bl_0 {av : List Value} : FrameBlind (va_Pc av (fun _ => True)) := fun a U g mk q => q
abbrev wsX3_compareLongs : List Cond := ws_ yX3_compareLongs cX3_compareLongs 4 (some .int)
set_option maxHeartbeats 4000000 in
set_option maxRecDepth 100000 in
/-- the order of two longs -/
theorem metX3_compareLongs (l : Launch) (a b : Int64) : Met l yX3_compareLongs wsX3_compareLongs ({ frames := 0, cells := 0, slots := 0, locals := 0 }) (va_Pc [.long a, .long b] (fun _ => True)) (vp_Si (fun (r : Int32) => (r.toInt = -1 ∧ a.toInt < b.toInt) ∨ (r.toInt = 1 ∧ b.toInt < a.toInt) ∨ (r.toInt = 0 ∧ a.toInt = b.toInt))) 0 0 (fun _ => False) := by
  refine Met.ofW (cc := cX3_compareLongs) (maxL := 4) (ret := (some .int)) (by decide) rfl ?_
  intro p e s m args below meth c s₁ B hml hv
  obtain ⟨rfl, -⟩ := hv
  have hx := B.exec
  have hb := B.bytes
  have hr := B.returns
  have hts := atoms_spec (ws := wsX3_compareLongs) B.pre
  have hts : ∀ w ∈ lw_all, w.before _ s = true := fun w h => hts w (List.mem_cons_of_mem _ h)
  have hown : s.vm.findClass RX3 = some m.cls := findClass_of_methodNamed B.named
  have hlocks := B.notSynchronized
  have hl := lv_entry ([.long a, .long b]) (n := 4) (Nat.le_of_ble_eq_true rfl)
  rw [lg_entry_eq]
  generalize (lg_sl ([.long a, .long b]) ++ List.replicate (4 - (lg_sl ([.long a, .long b])).length) Slot.unset).toArray = ls at hl ⊢
  have hl : lv_has ls 4 [(0, .long a), (2, .long b)] := hl
  refine lv_lload_n hx hb dX3_compareLongs_0 rfl (lv_at hl 0 rfl) ?_
  refine lv_lload_n hx hb dX3_compareLongs_1 rfl (lv_at hl 1 rfl) ?_
  refine W.lcmp hx hb dX3_compareLongs_2 ?_
  refine lv_if_ge (tgt := 8) hx hb dX3_compareLongs_3 (by decide) (fun c3 => ?_) (fun c3 => ?_)
  · have k3 := n_ge.mp c3
    refine lv_lload_n hx hb dX3_compareLongs_8 rfl (lv_at hl 0 rfl) ?_
    refine lv_lload_n hx hb dX3_compareLongs_9 rfl (lv_at hl 1 rfl) ?_
    refine W.lcmp hx hb dX3_compareLongs_10 ?_
    refine lv_if_le (tgt := 16) hx hb dX3_compareLongs_11 (by decide) (fun c11 => ?_) (fun c11 => ?_)
    · have k11 := n_le.mp c11
      refine lv_iconst (v := 0) hx hb dX3_compareLongs_16 (by decide) ?_
      exact W.iret (v := 0) hx hb hr (fun t ht hW => ⟨0, rfl, (show ((0 : Int32).toInt = -1 ∧ a.toInt < b.toInt) ∨ ((0 : Int32).toInt = 1 ∧ b.toInt < a.toInt) ∨ ((0 : Int32).toInt = 0 ∧ a.toInt = b.toInt) from by exact Or.inr (Or.inr ⟨i0, by omega⟩)), ht⟩) (fun q h => by cases h) dX3_compareLongs_17
    · have k11 := mt n_le.mpr c11
      refine lv_iconst (v := 1) hx hb dX3_compareLongs_14 (by decide) ?_
      exact W.iret (v := 1) hx hb hr (fun t ht hW => ⟨1, rfl, (show ((1 : Int32).toInt = -1 ∧ a.toInt < b.toInt) ∨ ((1 : Int32).toInt = 1 ∧ b.toInt < a.toInt) ∨ ((1 : Int32).toInt = 0 ∧ a.toInt = b.toInt) from by exact Or.inr (Or.inl ⟨i1, by omega⟩)), ht⟩) (fun q h => by cases h) dX3_compareLongs_15
  · have k3 := mt n_ge.mpr c3
    refine lv_iconst (v := -1) hx hb dX3_compareLongs_6 (by decide) ?_
    exact W.iret (v := (-1)) hx hb hr (fun t ht hW => ⟨(-1), rfl, (show (((-1) : Int32).toInt = -1 ∧ a.toInt < b.toInt) ∨ (((-1) : Int32).toInt = 1 ∧ b.toInt < a.toInt) ∨ (((-1) : Int32).toInt = 0 ∧ a.toInt = b.toInt) from by exact Or.inl ⟨in1, by omega⟩), ht⟩) (fun q h => by cases h) dX3_compareLongs_7
abbrev wsX3_safeAdd : List Cond := ws_ yX3_safeAdd cX3_safeAdd 6 (some .long)
set_option maxHeartbeats 4000000 in
set_option maxRecDepth 100000 in
/-- a sum that fits -/
theorem metX3_safeAdd (l : Launch) (a b : Int64) (h1 : -9223372036854775808 ≤ a.toInt + b.toInt) (h2 : a.toInt + b.toInt < 9223372036854775808) : Met l yX3_safeAdd wsX3_safeAdd ({ frames := 0, cells := 0, slots := 0, locals := 0 }) (va_Pc [.long a, .long b] (fun _ => True)) (vp_Sl (fun (r : Int64) => r.toInt = a.toInt + b.toInt)) 0 0 (fun _ => False) := by
  refine Met.ofW (cc := cX3_safeAdd) (maxL := 6) (ret := (some .long)) (by decide) rfl ?_
  intro p e s m args below meth c s₁ B hml hv
  obtain ⟨rfl, -⟩ := hv
  have hx := B.exec
  have hb := B.bytes
  have hr := B.returns
  have hts := atoms_spec (ws := wsX3_safeAdd) B.pre
  have hts : ∀ w ∈ lw_all, w.before _ s = true := fun w h => hts w (List.mem_cons_of_mem _ h)
  have hown : s.vm.findClass RX3 = some m.cls := findClass_of_methodNamed B.named
  have hlocks := B.notSynchronized
  have hl := lv_entry ([.long a, .long b]) (n := 6) (Nat.le_of_ble_eq_true rfl)
  rw [lg_entry_eq]
  generalize (lg_sl ([.long a, .long b]) ++ List.replicate (6 - (lg_sl ([.long a, .long b])).length) Slot.unset).toArray = ls at hl ⊢
  have hl : lv_has ls 6 [(0, .long a), (2, .long b)] := hl
  refine lv_lload_n hx hb dX3_safeAdd_0 rfl (lv_at hl 0 rfl) ?_
  refine lv_lload_n hx hb dX3_safeAdd_1 rfl (lv_at hl 1 rfl) ?_
  refine lv_ladd hx hb dX3_safeAdd_2 ?_
  refine lv_topl (fun v2 e2 => ?_)
  have g2 := n_add e2 h1 h2
  refine lv_lstore (lv' := [(4, .long v2), (0, .long a), (2, .long b)]) hx hb dX3_safeAdd_3 hl (by decide) rfl (fun ls hl => ?_)
  refine lv_lload_n hx hb dX3_safeAdd_5 rfl (lv_at hl 1 rfl) ?_
  refine lv_lload hx hb dX3_safeAdd_6 (lv_at hl 0 rfl) ?_
  refine lv_lxor hx hb dX3_safeAdd_8 ?_
  refine lv_topl (fun v8 e8 => ?_)
  have g8 := n_xor e8
  refine lv_lconst (v := 0) hx hb dX3_safeAdd_9 (by decide) ?_
  refine W.lcmp hx hb dX3_safeAdd_10 ?_
  refine lv_if_ge (tgt := 32) hx hb dX3_safeAdd_11 (by decide) (fun c11 => ?_) (fun c11 => ?_)
  · have k11 := n_ge.mp c11
    rw [z0] at k11
    refine lv_lload hx hb dX3_safeAdd_32 (lv_at hl 0 rfl) ?_
    exact W.lret (v := v2) hx hb hr (fun t ht hW => ⟨v2, rfl, (show v2.toInt = a.toInt + b.toInt from by exact g2), ht⟩) (fun q h => by cases h) dX3_safeAdd_34
  · have k11 := mt n_ge.mpr c11
    rw [z0] at k11
    refine lv_lload_n hx hb dX3_safeAdd_14 rfl (lv_at hl 1 rfl) ?_
    refine lv_lload_n hx hb dX3_safeAdd_15 rfl (lv_at hl 2 rfl) ?_
    refine lv_lxor hx hb dX3_safeAdd_16 ?_
    refine lv_topl (fun v16 e16 => ?_)
    have g16 := n_xor e16
    refine lv_lconst (v := 0) hx hb dX3_safeAdd_17 (by decide) ?_
    refine W.lcmp hx hb dX3_safeAdd_18 ?_
    refine lv_if_lt (tgt := 32) hx hb dX3_safeAdd_19 (by decide) (fun c19 => ?_) (fun c19 => ?_)
    · have k19 := n_lt.mp c19
      rw [z0] at k19
      refine lv_lload hx hb dX3_safeAdd_32 (lv_at hl 0 rfl) ?_
      exact W.lret (v := v2) hx hb hr (fun t ht hW => ⟨v2, rfl, (show v2.toInt = a.toInt + b.toInt from by exact g2), ht⟩) (fun q h => by cases h) dX3_safeAdd_34
    · have k19 := mt n_lt.mpr c19
      rw [z0] at k19
      exfalso; omega
abbrev wsX3_safeSubtract : List Cond := ws_ yX3_safeSubtract cX3_safeSubtract 6 (some .long)
set_option maxHeartbeats 4000000 in
set_option maxRecDepth 100000 in
/-- a difference that fits -/
theorem metX3_safeSubtract (l : Launch) (a b : Int64) (h1 : -9223372036854775808 ≤ a.toInt - b.toInt) (h2 : a.toInt - b.toInt < 9223372036854775808) : Met l yX3_safeSubtract wsX3_safeSubtract ({ frames := 0, cells := 0, slots := 0, locals := 0 }) (va_Pc [.long a, .long b] (fun _ => True)) (vp_Sl (fun (r : Int64) => r.toInt = a.toInt - b.toInt)) 0 0 (fun _ => False) := by
  refine Met.ofW (cc := cX3_safeSubtract) (maxL := 6) (ret := (some .long)) (by decide) rfl ?_
  intro p e s m args below meth c s₁ B hml hv
  obtain ⟨rfl, -⟩ := hv
  have hx := B.exec
  have hb := B.bytes
  have hr := B.returns
  have hts := atoms_spec (ws := wsX3_safeSubtract) B.pre
  have hts : ∀ w ∈ lw_all, w.before _ s = true := fun w h => hts w (List.mem_cons_of_mem _ h)
  have hown : s.vm.findClass RX3 = some m.cls := findClass_of_methodNamed B.named
  have hlocks := B.notSynchronized
  have hl := lv_entry ([.long a, .long b]) (n := 6) (Nat.le_of_ble_eq_true rfl)
  rw [lg_entry_eq]
  generalize (lg_sl ([.long a, .long b]) ++ List.replicate (6 - (lg_sl ([.long a, .long b])).length) Slot.unset).toArray = ls at hl ⊢
  have hl : lv_has ls 6 [(0, .long a), (2, .long b)] := hl
  refine lv_lload_n hx hb dX3_safeSubtract_0 rfl (lv_at hl 0 rfl) ?_
  refine lv_lload_n hx hb dX3_safeSubtract_1 rfl (lv_at hl 1 rfl) ?_
  refine lv_lsub hx hb dX3_safeSubtract_2 ?_
  refine lv_topl (fun v2 e2 => ?_)
  have g2 := n_sub e2 h1 h2
  refine lv_lstore (lv' := [(4, .long v2), (0, .long a), (2, .long b)]) hx hb dX3_safeSubtract_3 hl (by decide) rfl (fun ls hl => ?_)
  refine lv_lload_n hx hb dX3_safeSubtract_5 rfl (lv_at hl 1 rfl) ?_
  refine lv_lload hx hb dX3_safeSubtract_6 (lv_at hl 0 rfl) ?_
  refine lv_lxor hx hb dX3_safeSubtract_8 ?_
  refine lv_topl (fun v8 e8 => ?_)
  have g8 := n_xor e8
  refine lv_lconst (v := 0) hx hb dX3_safeSubtract_9 (by decide) ?_
  refine W.lcmp hx hb dX3_safeSubtract_10 ?_
  refine lv_if_ge (tgt := 32) hx hb dX3_safeSubtract_11 (by decide) (fun c11 => ?_) (fun c11 => ?_)
  · have k11 := n_ge.mp c11
    rw [z0] at k11
    refine lv_lload hx hb dX3_safeSubtract_32 (lv_at hl 0 rfl) ?_
    exact W.lret (v := v2) hx hb hr (fun t ht hW => ⟨v2, rfl, (show v2.toInt = a.toInt - b.toInt from by exact g2), ht⟩) (fun q h => by cases h) dX3_safeSubtract_34
  · have k11 := mt n_ge.mpr c11
    rw [z0] at k11
    refine lv_lload_n hx hb dX3_safeSubtract_14 rfl (lv_at hl 1 rfl) ?_
    refine lv_lload_n hx hb dX3_safeSubtract_15 rfl (lv_at hl 2 rfl) ?_
    refine lv_lxor hx hb dX3_safeSubtract_16 ?_
    refine lv_topl (fun v16 e16 => ?_)
    have g16 := n_xor e16
    refine lv_lconst (v := 0) hx hb dX3_safeSubtract_17 (by decide) ?_
    refine W.lcmp hx hb dX3_safeSubtract_18 ?_
    refine lv_if_ge (tgt := 32) hx hb dX3_safeSubtract_19 (by decide) (fun c19 => ?_) (fun c19 => ?_)
    · have k19 := n_ge.mp c19
      rw [z0] at k19
      refine lv_lload hx hb dX3_safeSubtract_32 (lv_at hl 0 rfl) ?_
      exact W.lret (v := v2) hx hb hr (fun t ht hW => ⟨v2, rfl, (show v2.toInt = a.toInt - b.toInt from by exact g2), ht⟩) (fun q h => by cases h) dX3_safeSubtract_34
    · have k19 := mt n_ge.mpr c19
      rw [z0] at k19
      exfalso; omega
abbrev wsX3_safeMultiply : List Cond := ws_ yX3_safeMultiply cX3_safeMultiply 6 (some .long)
set_option maxHeartbeats 4000000 in
set_option maxRecDepth 100000 in
/-- a thousandfold that fits -/
theorem metX3_safeMultiply (l : Launch) (a b : Int64) (hbk : b.toInt = 1000) (h1 : -9223372036854775808 ≤ a.toInt * 1000) (h2 : a.toInt * 1000 < 9223372036854775808) : Met l yX3_safeMultiply wsX3_safeMultiply ({ frames := 0, cells := 0, slots := 0, locals := 0 }) (va_Pc [.long a, .long b] (fun _ => True)) (vp_Sl (fun (r : Int64) => r.toInt = a.toInt * 1000)) 0 0 (fun _ => False) := by
  refine Met.ofW (cc := cX3_safeMultiply) (maxL := 6) (ret := (some .long)) (by decide) rfl ?_
  intro p e s m args below meth c s₁ B hml hv
  obtain ⟨rfl, -⟩ := hv
  have hx := B.exec
  have hb := B.bytes
  have hr := B.returns
  have hts := atoms_spec (ws := wsX3_safeMultiply) B.pre
  have hts : ∀ w ∈ lw_all, w.before _ s = true := fun w h => hts w (List.mem_cons_of_mem _ h)
  have hown : s.vm.findClass RX3 = some m.cls := findClass_of_methodNamed B.named
  have hlocks := B.notSynchronized
  have hl := lv_entry ([.long a, .long b]) (n := 6) (Nat.le_of_ble_eq_true rfl)
  rw [lg_entry_eq]
  generalize (lg_sl ([.long a, .long b]) ++ List.replicate (6 - (lg_sl ([.long a, .long b])).length) Slot.unset).toArray = ls at hl ⊢
  have hl : lv_has ls 6 [(0, .long a), (2, .long b)] := hl
  refine lv_lload_n hx hb dX3_safeMultiply_0 rfl (lv_at hl 1 rfl) ?_
  refine lv_lconst (v := 1) hx hb dX3_safeMultiply_1 (by decide) ?_
  refine W.lcmp hx hb dX3_safeMultiply_2 ?_
  refine lv_if_ne (tgt := 8) hx hb dX3_safeMultiply_3 (by decide) (fun c3 => ?_) (fun c3 => ?_)
  · have k3 := mt n_eq.mpr c3
    rw [z1] at k3
    refine lv_lload_n hx hb dX3_safeMultiply_8 rfl (lv_at hl 0 rfl) ?_
    refine lv_lconst (v := 1) hx hb dX3_safeMultiply_9 (by decide) ?_
    refine W.lcmp hx hb dX3_safeMultiply_10 ?_
    refine lv_if_ne (tgt := 16) hx hb dX3_safeMultiply_11 (by decide) (fun c11 => ?_) (fun c11 => ?_)
    · have k11 := mt n_eq.mpr c11
      rw [z1] at k11
      refine lv_lload_n hx hb dX3_safeMultiply_16 rfl (lv_at hl 0 rfl) ?_
      refine lv_lconst (v := 0) hx hb dX3_safeMultiply_17 (by decide) ?_
      refine W.lcmp hx hb dX3_safeMultiply_18 ?_
      refine lv_if_eq (tgt := 28) hx hb dX3_safeMultiply_19 (by decide) (fun c19 => ?_) (fun c19 => ?_)
      · have k19 := n_eq.mp c19
        rw [z0] at k19
        refine lv_lconst (v := 0) hx hb dX3_safeMultiply_28 (by decide) ?_
        exact W.lret (v := 0) hx hb hr (fun t ht hW => ⟨0, rfl, (show (0 : Int64).toInt = a.toInt * 1000 from by rw [z0]; omega), ht⟩) (fun q h => by cases h) dX3_safeMultiply_29
      · have k19 := mt n_eq.mpr c19
        rw [z0] at k19
        refine lv_lload_n hx hb dX3_safeMultiply_22 rfl (lv_at hl 1 rfl) ?_
        refine lv_lconst (v := 0) hx hb dX3_safeMultiply_23 (by decide) ?_
        refine W.lcmp hx hb dX3_safeMultiply_24 ?_
        refine lv_if_ne (tgt := 30) hx hb dX3_safeMultiply_25 (by decide) (fun c25 => ?_) (fun c25 => ?_)
        · have k25 := mt n_eq.mpr c25
          rw [z0] at k25
          refine lv_lload_n hx hb dX3_safeMultiply_30 rfl (lv_at hl 0 rfl) ?_
          refine lv_lload_n hx hb dX3_safeMultiply_31 rfl (lv_at hl 1 rfl) ?_
          refine lv_lmul hx hb dX3_safeMultiply_32 ?_
          refine lv_topl (fun v32 e32 => ?_)
          have g32 := n_mul e32 (by rw [hbk]; omega) (by rw [hbk]; omega)
          rw [hbk] at g32
          refine lv_lstore (lv' := [(4, .long v32), (0, .long a), (2, .long b)]) hx hb dX3_safeMultiply_33 hl (by decide) rfl (fun ls hl => ?_)
          refine lv_lload hx hb dX3_safeMultiply_35 (lv_at hl 0 rfl) ?_
          refine lv_lload_n hx hb dX3_safeMultiply_37 rfl (lv_at hl 2 rfl) ?_
          refine lv_ldiv hx hb dX3_safeMultiply_38 (fun h => by rw [h] at hbk; revert hbk; decide) ?_
          refine lv_topl (fun v38 e38 => ?_)
          have g38 := n_div e38 1000 hbk (by decide)
          refine lv_lload_n hx hb dX3_safeMultiply_39 rfl (lv_at hl 1 rfl) ?_
          refine W.lcmp hx hb dX3_safeMultiply_40 ?_
          refine lv_if_ne (tgt := 76) hx hb dX3_safeMultiply_41 (by decide) (fun c41 => ?_) (fun c41 => ?_)
          · have k41 := mt n_eq.mpr c41
            exfalso; omega
          · have k41 := n_eq.mp c41
            refine lv_lload_n hx hb dX3_safeMultiply_44 rfl (lv_at hl 1 rfl) ?_
            refine lv_ldc2 (v := (-9223372036854775808)) hx hb hown (hts _ q255) dX3_safeMultiply_45 ?_
            refine W.lcmp hx hb dX3_safeMultiply_48 ?_
            refine lv_if_ne (tgt := 60) hx hb dX3_safeMultiply_49 (by decide) (fun c49 => ?_) (fun c49 => ?_)
            · have k49 := mt n_eq.mpr c49
              rw [zmin] at k49
              refine lv_lload_n hx hb dX3_safeMultiply_60 rfl (lv_at hl 2 rfl) ?_
              refine lv_ldc2 (v := (-9223372036854775808)) hx hb hown (hts _ q255) dX3_safeMultiply_61 ?_
              refine W.lcmp hx hb dX3_safeMultiply_64 ?_
              refine lv_if_ne (tgt := 86) hx hb dX3_safeMultiply_65 (by decide) (fun c65 => ?_) (fun c65 => ?_)
              · have k65 := mt n_eq.mpr c65
                rw [zmin] at k65
                refine lv_lload hx hb dX3_safeMultiply_86 (lv_at hl 0 rfl) ?_
                exact W.lret (v := v32) hx hb hr (fun t ht hW => ⟨v32, rfl, (show v32.toInt = a.toInt * 1000 from by exact g32), ht⟩) (fun q h => by cases h) dX3_safeMultiply_88
              · have k65 := n_eq.mp c65
                rw [zmin] at k65
                exfalso; omega
            · have k49 := n_eq.mp c49
              rw [zmin] at k49
              refine lv_lload_n hx hb dX3_safeMultiply_52 rfl (lv_at hl 2 rfl) ?_
              refine lv_ldc2 (v := (-1)) hx hb hown (hts _ q256) dX3_safeMultiply_53 ?_
              refine W.lcmp hx hb dX3_safeMultiply_56 ?_
              refine lv_if_eq (tgt := 76) hx hb dX3_safeMultiply_57 (by decide) (fun c57 => ?_) (fun c57 => ?_)
              · have k57 := n_eq.mp c57
                rw [zn1] at k57
                exfalso; omega
              · have k57 := mt n_eq.mpr c57
                rw [zn1] at k57
                refine lv_lload_n hx hb dX3_safeMultiply_60 rfl (lv_at hl 2 rfl) ?_
                refine lv_ldc2 (v := (-9223372036854775808)) hx hb hown (hts _ q255) dX3_safeMultiply_61 ?_
                refine W.lcmp hx hb dX3_safeMultiply_64 ?_
                refine lv_if_ne (tgt := 86) hx hb dX3_safeMultiply_65 (by decide) (fun c65 => ?_) (fun c65 => ?_)
                · have k65 := mt n_eq.mpr c65
                  rw [zmin] at k65
                  refine lv_lload hx hb dX3_safeMultiply_86 (lv_at hl 0 rfl) ?_
                  exact W.lret (v := v32) hx hb hr (fun t ht hW => ⟨v32, rfl, (show v32.toInt = a.toInt * 1000 from by exact g32), ht⟩) (fun q h => by cases h) dX3_safeMultiply_88
                · have k65 := n_eq.mp c65
                  rw [zmin] at k65
                  exfalso; omega
        · have k25 := n_eq.mp c25
          rw [z0] at k25
          exfalso; omega
    · have k11 := n_eq.mp c11
      rw [z1] at k11
      refine lv_lload_n hx hb dX3_safeMultiply_14 rfl (lv_at hl 1 rfl) ?_
      exact W.lret (v := b) hx hb hr (fun t ht hW => ⟨b, rfl, (show b.toInt = a.toInt * 1000 from by omega), ht⟩) (fun q h => by cases h) dX3_safeMultiply_15
  · have k3 := n_eq.mp c3
    rw [z1] at k3
    exfalso; omega
abbrev wsX3_floorDiv : List Cond := ws_ yX3_floorDiv cX3_floorDiv 4 (some .long)
set_option maxHeartbeats 4000000 in
set_option maxRecDepth 100000 in
/-- a quotient rounded down -/
theorem metX3_floorDiv (l : Launch) (a b : Int64) (k : Int) (hbk : b.toInt = k) (hk : k = 1000000000 ∨ k = 1000) : Met l yX3_floorDiv wsX3_floorDiv ({ frames := 0, cells := 0, slots := 0, locals := 0 }) (va_Pc [.long a, .long b] (fun _ => True)) (vp_Sl (fun (r : Int64) => r.toInt = a.toInt / k)) 0 0 (fun _ => False) := by
  refine Met.ofW (cc := cX3_floorDiv) (maxL := 4) (ret := (some .long)) (by decide) rfl ?_
  intro p e s m args below meth c s₁ B hml hv
  obtain ⟨rfl, -⟩ := hv
  have hx := B.exec
  have hb := B.bytes
  have hr := B.returns
  have hts := atoms_spec (ws := wsX3_floorDiv) B.pre
  have hts : ∀ w ∈ lw_all, w.before _ s = true := fun w h => hts w (List.mem_cons_of_mem _ h)
  have hown : s.vm.findClass RX3 = some m.cls := findClass_of_methodNamed B.named
  have hlocks := B.notSynchronized
  have hl := lv_entry ([.long a, .long b]) (n := 4) (Nat.le_of_ble_eq_true rfl)
  rw [lg_entry_eq]
  generalize (lg_sl ([.long a, .long b]) ++ List.replicate (4 - (lg_sl ([.long a, .long b])).length) Slot.unset).toArray = ls at hl ⊢
  have hl : lv_has ls 4 [(0, .long a), (2, .long b)] := hl
  have na1 := n_lo a
  have na2 := n_hi a
  refine lv_lload_n hx hb dX3_floorDiv_0 rfl (lv_at hl 0 rfl) ?_
  refine lv_lconst (v := 0) hx hb dX3_floorDiv_1 (by decide) ?_
  refine W.lcmp hx hb dX3_floorDiv_2 ?_
  refine lv_if_lt (tgt := 12) hx hb dX3_floorDiv_3 (by decide) (fun c3 => ?_) (fun c3 => ?_)
  · have k3 := n_lt.mp c3
    rw [z0] at k3
    refine lv_lload_n hx hb dX3_floorDiv_12 rfl (lv_at hl 0 rfl) ?_
    refine lv_lconst (v := 1) hx hb dX3_floorDiv_13 (by decide) ?_
    refine lv_ladd hx hb dX3_floorDiv_14 ?_
    refine lv_topl (fun v14 e14 => ?_)
    have g14 := n_add e14 (by rw [z1]; omega) (by rw [z1]; omega)
    rw [z1] at g14
    refine lv_lload_n hx hb dX3_floorDiv_15 rfl (lv_at hl 1 rfl) ?_
    refine lv_ldiv hx hb dX3_floorDiv_16 (fun h => by rw [h, z0] at hbk; omega) ?_
    refine lv_topl (fun v16 e16 => ?_)
    have g16 := n_div e16 k hbk (by omega)
    refine lv_lconst (v := 1) hx hb dX3_floorDiv_17 (by decide) ?_
    refine lv_lsub hx hb dX3_floorDiv_18 ?_
    refine lv_topl (fun v18 e18 => ?_)
    have g18 := n_sub e18 (by rw [z1]; rcases hk with rfl | rfl <;> omega) (by rw [z1]; rcases hk with rfl | rfl <;> omega)
    rw [z1] at g18
    exact W.lret (v := v18) hx hb hr (fun t ht hW => ⟨v18, rfl, (show v18.toInt = a.toInt / k from by rcases hk with rfl | rfl <;> omega), ht⟩) (fun q h => by cases h) dX3_floorDiv_19
  · have k3 := mt n_lt.mpr c3
    rw [z0] at k3
    refine lv_lload_n hx hb dX3_floorDiv_6 rfl (lv_at hl 0 rfl) ?_
    refine lv_lload_n hx hb dX3_floorDiv_7 rfl (lv_at hl 1 rfl) ?_
    refine lv_ldiv hx hb dX3_floorDiv_8 (fun h => by rw [h, z0] at hbk; omega) ?_
    refine lv_topl (fun v8 e8 => ?_)
    have g8 := n_div e8 k hbk (by omega)
    refine lv_goto (tgt := 19) hx hb dX3_floorDiv_9 (by decide) ?_
    exact W.lret (v := v8) hx hb hr (fun t ht hW => ⟨v8, rfl, (show v8.toInt = a.toInt / k from by rcases hk with rfl | rfl <;> omega), ht⟩) (fun q h => by cases h) dX3_floorDiv_19
abbrev wsX3_floorMod : List Cond := ws_ yX3_floorMod cX3_floorMod 3 (some .int)
set_option maxHeartbeats 4000000 in
set_option maxRecDepth 100000 in
/-- a remainder from 0 on -/
theorem metX3_floorMod (l : Launch) (a : Int64) (b : Int32) (k : Int) (hbk : b.toInt = k) (hk : k = 1000000000 ∨ k = 1000) : Met l yX3_floorMod wsX3_floorMod ({ frames := 0, cells := 0, slots := 0, locals := 0 }) (va_Pc [.long a, .int b] (fun _ => True)) (vp_Si (fun (r : Int32) => r.toInt = a.toInt % k)) 0 0 (fun _ => False) := by
  refine Met.ofW (cc := cX3_floorMod) (maxL := 3) (ret := (some .int)) (by decide) rfl ?_
  intro p e s m args below meth c s₁ B hml hv
  obtain ⟨rfl, -⟩ := hv
  have hx := B.exec
  have hb := B.bytes
  have hr := B.returns
  have hts := atoms_spec (ws := wsX3_floorMod) B.pre
  have hts : ∀ w ∈ lw_all, w.before _ s = true := fun w h => hts w (List.mem_cons_of_mem _ h)
  have hown : s.vm.findClass RX3 = some m.cls := findClass_of_methodNamed B.named
  have hlocks := B.notSynchronized
  have hl := lv_entry ([.long a, .int b]) (n := 3) (Nat.le_of_ble_eq_true rfl)
  rw [lg_entry_eq]
  generalize (lg_sl ([.long a, .int b]) ++ List.replicate (3 - (lg_sl ([.long a, .int b])).length) Slot.unset).toArray = ls at hl ⊢
  have hl : lv_has ls 3 [(0, .long a), (2, .int b)] := hl
  have na1 := n_lo a
  have na2 := n_hi a
  refine lv_lload_n hx hb dX3_floorMod_0 rfl (lv_at hl 0 rfl) ?_
  refine lv_iload_n hx hb dX3_floorMod_1 rfl (lv_at hl 1 rfl) ?_
  refine lv_i2l hx hb dX3_floorMod_2 rfl ?_
  refine lv_topl (fun v2 e2 => ?_)
  have g2 := (n_i2l e2).trans hbk
  refine lv_lrem hx hb dX3_floorMod_3 (fun h => by rw [h, z0] at g2; omega) ?_
  refine lv_topl (fun v3 e3 => ?_)
  have g3 := n_rem e3 k g2 (by omega)
  refine lv_iload_n hx hb dX3_floorMod_4 rfl (lv_at hl 1 rfl) ?_
  refine lv_i2l hx hb dX3_floorMod_5 rfl ?_
  refine lv_topl (fun v5 e5 => ?_)
  have g5 := (n_i2l e5).trans hbk
  refine lv_ladd hx hb dX3_floorMod_6 ?_
  refine lv_topl (fun v6 e6 => ?_)
  have g6 := n_add e6 (by rcases hk with rfl | rfl <;> omega) (by rcases hk with rfl | rfl <;> omega)
  refine lv_iload_n hx hb dX3_floorMod_7 rfl (lv_at hl 1 rfl) ?_
  refine lv_i2l hx hb dX3_floorMod_8 rfl ?_
  refine lv_topl (fun v8 e8 => ?_)
  have g8 := (n_i2l e8).trans hbk
  refine lv_lrem hx hb dX3_floorMod_9 (fun h => by rw [h, z0] at g8; omega) ?_
  refine lv_topl (fun v9 e9 => ?_)
  have g9 := n_rem e9 k g8 (by omega)
  refine lv_l2i hx hb dX3_floorMod_10 rfl ?_
  refine lv_topi (fun v10 e10 => ?_)
  have g10 := n_l2i e10 (by rcases hk with rfl | rfl <;> omega) (by rcases hk with rfl | rfl <;> omega)
  exact W.iret (v := v10) hx hb hr (fun t ht hW => ⟨v10, rfl, (show v10.toInt = a.toInt % k from by rcases hk with rfl | rfl <;> omega), ht⟩) (fun q h => by cases h) dX3_floorMod_11
abbrev wsX5_floor : List Cond := ws_ yX5_floor cX5_floor 6 (some .long)
set_option maxHeartbeats 4000000 in
set_option maxRecDepth 100000 in
/-- the greatest q with q * b at most a -/
theorem metX5_floor (l : Launch) (a b : Int64) (k : Int) (hbk : b.toInt = k) (hk : k = 1000000000 ∨ k = 1000) : Met l yX5_floor wsX5_floor ({ frames := 0, cells := 0, slots := 0, locals := 0 }) (va_Pc [.long a, .long b] (fun _ => True)) (vp_Sl (fun (r : Int64) => r.toInt = a.toInt / k)) 0 0 (fun _ => False) := by
  refine Met.ofW (cc := cX5_floor) (maxL := 6) (ret := (some .long)) (by decide) rfl ?_
  intro p e s m args below meth c s₁ B hml hv
  obtain ⟨rfl, -⟩ := hv
  have hx := B.exec
  have hb := B.bytes
  have hr := B.returns
  have hts := atoms_spec (ws := wsX5_floor) B.pre
  have hts : ∀ w ∈ lw_all, w.before _ s = true := fun w h => hts w (List.mem_cons_of_mem _ h)
  have hown : s.vm.findClass RX5 = some m.cls := findClass_of_methodNamed B.named
  have hlocks := B.notSynchronized
  have hl := lv_entry ([.long a, .long b]) (n := 6) (Nat.le_of_ble_eq_true rfl)
  rw [lg_entry_eq]
  generalize (lg_sl ([.long a, .long b]) ++ List.replicate (6 - (lg_sl ([.long a, .long b])).length) Slot.unset).toArray = ls at hl ⊢
  have hl : lv_has ls 6 [(0, .long a), (2, .long b)] := hl
  have na1 := n_lo a
  have na2 := n_hi a
  refine lv_lload_n hx hb dX5_floor_0 rfl (lv_at hl 0 rfl) ?_
  refine lv_lload_n hx hb dX5_floor_1 rfl (lv_at hl 1 rfl) ?_
  refine lv_ldiv hx hb dX5_floor_2 (fun h => by rw [h, z0] at hbk; omega) ?_
  refine lv_topl (fun v2 e2 => ?_)
  have g2 := n_div e2 k hbk (by omega)
  refine lv_lstore (lv' := [(4, .long v2), (0, .long a), (2, .long b)]) hx hb dX5_floor_3 hl (by decide) rfl (fun ls hl => ?_)
  refine lv_lload_n hx hb dX5_floor_5 rfl (lv_at hl 1 rfl) ?_
  refine lv_lload_n hx hb dX5_floor_6 rfl (lv_at hl 2 rfl) ?_
  refine lv_lrem hx hb dX5_floor_7 (fun h => by rw [h, z0] at hbk; omega) ?_
  refine lv_topl (fun v7 e7 => ?_)
  have g7 := n_rem e7 k hbk (by omega)
  refine lv_lconst (v := 0) hx hb dX5_floor_8 (by decide) ?_
  refine W.lcmp hx hb dX5_floor_9 ?_
  refine lv_if_ge (tgt := 19) hx hb dX5_floor_10 (by decide) (fun c10 => ?_) (fun c10 => ?_)
  · have k10 := n_ge.mp c10
    rw [z0] at k10
    refine lv_lload hx hb dX5_floor_19 (lv_at hl 0 rfl) ?_
    exact W.lret (v := v2) hx hb hr (fun t ht hW => ⟨v2, rfl, (show v2.toInt = a.toInt / k from by rcases hk with rfl | rfl <;> omega), ht⟩) (fun q h => by cases h) dX5_floor_21
  · have k10 := mt n_ge.mpr c10
    rw [z0] at k10
    refine lv_lload hx hb dX5_floor_13 (lv_at hl 0 rfl) ?_
    refine lv_lconst (v := 1) hx hb dX5_floor_15 (by decide) ?_
    refine lv_lsub hx hb dX5_floor_16 ?_
    refine lv_topl (fun v16 e16 => ?_)
    have g16 := n_sub e16 (by rw [z1]; rcases hk with rfl | rfl <;> omega) (by rw [z1]; rcases hk with rfl | rfl <;> omega)
    rw [z1] at g16
    refine lv_lstore (lv' := [(4, .long v16), (0, .long a), (2, .long b)]) hx hb dX5_floor_17 hl (by decide) rfl (fun ls hl => ?_)
    refine lv_lload hx hb dX5_floor_19 (lv_at hl 0 rfl) ?_
    exact W.lret (v := v16) hx hb hr (fun t ht hW => ⟨v16, rfl, (show v16.toInt = a.toInt / k from by rcases hk with rfl | rfl <;> omega), ht⟩) (fun q h => by cases h) dX5_floor_21
abbrev wsX5_join : List Cond := ws_ yX5_join cX5_join 4 (some .long)
set_option maxHeartbeats 4000000 in
set_option maxRecDepth 100000 in
/-- two halves put together -/
theorem metX5_join (l : Launch) (h l0 : Int32) : Met l yX5_join wsX5_join ({ frames := 0, cells := 0, slots := 0, locals := 0 }) (va_Pc [.int h, .int l0] (fun _ => True)) (vp_Sl (fun (r : Int64) => r.toInt = jn h l0)) 0 0 (fun _ => False) := by
  refine Met.ofW (cc := cX5_join) (maxL := 4) (ret := (some .long)) (by decide) rfl ?_
  intro p e s m args below meth c s₁ B hml hv
  obtain ⟨rfl, -⟩ := hv
  have hx := B.exec
  have hb := B.bytes
  have hr := B.returns
  have hts := atoms_spec (ws := wsX5_join) B.pre
  have hts : ∀ w ∈ lw_all, w.before _ s = true := fun w h => hts w (List.mem_cons_of_mem _ h)
  have hown : s.vm.findClass RX5 = some m.cls := findClass_of_methodNamed B.named
  have hlocks := B.notSynchronized
  have hl := lv_entry ([.int h, .int l0]) (n := 4) (Nat.le_of_ble_eq_true rfl)
  rw [lg_entry_eq]
  generalize (lg_sl ([.int h, .int l0]) ++ List.replicate (4 - (lg_sl ([.int h, .int l0])).length) Slot.unset).toArray = ls at hl ⊢
  have hl : lv_has ls 4 [(0, .int h), (1, .int l0)] := hl
  have nh1 := n_lo32 h
  have nh2 := n_hi32 h
  have nl1 := n_lo32 l0
  have nl2 := n_hi32 l0
  refine lv_iload_n hx hb dX5_join_0 rfl (lv_at hl 1 rfl) ?_
  refine lv_i2l hx hb dX5_join_1 rfl ?_
  refine lv_topl (fun v1 e1 => ?_)
  have g1 := n_i2l e1
  refine lv_lstore_n (lv' := [(2, .long v1), (0, .int h), (1, .int l0)]) hx hb dX5_join_2 rfl hl (by decide) rfl (fun ls hl => ?_)
  refine lv_lload_n hx hb dX5_join_3 rfl (lv_at hl 0 rfl) ?_
  refine lv_lconst (v := 0) hx hb dX5_join_4 (by decide) ?_
  refine W.lcmp hx hb dX5_join_5 ?_
  refine lv_if_ge (tgt := 15) hx hb dX5_join_6 (by decide) (fun c6 => ?_) (fun c6 => ?_)
  · have k6 := n_ge.mp c6
    rw [z0] at k6
    refine lv_iload_n hx hb dX5_join_15 rfl (lv_at hl 1 rfl) ?_
    refine lv_i2l hx hb dX5_join_16 rfl ?_
    refine lv_topl (fun v16 e16 => ?_)
    have g16 := n_i2l e16
    refine lv_ldc2 (v := 4294967296) hx hb hown (hts _ q284) dX5_join_17 ?_
    refine lv_lmul hx hb dX5_join_20 ?_
    refine lv_topl (fun v20 e20 => ?_)
    have g20 := n_mul e20 (by rw [zW]; omega) (by rw [zW]; omega)
    rw [zW] at g20
    refine lv_lload_n hx hb dX5_join_21 rfl (lv_at hl 0 rfl) ?_
    refine lv_ladd hx hb dX5_join_22 ?_
    refine lv_topl (fun v22 e22 => ?_)
    have g22 := n_add e22 (by omega) (by omega)
    exact W.lret (v := v22) hx hb hr (fun t ht hW => ⟨v22, rfl, (show v22.toInt = jn h l0 from by unfold jn; omega), ht⟩) (fun q h => by cases h) dX5_join_23
  · have k6 := mt n_ge.mpr c6
    rw [z0] at k6
    refine lv_lload_n hx hb dX5_join_9 rfl (lv_at hl 0 rfl) ?_
    refine lv_ldc2 (v := 4294967296) hx hb hown (hts _ q284) dX5_join_10 ?_
    refine lv_ladd hx hb dX5_join_13 ?_
    refine lv_topl (fun v13 e13 => ?_)
    have g13 := n_add e13 (by rw [zW]; omega) (by rw [zW]; omega)
    rw [zW] at g13
    refine lv_lstore_n (lv' := [(2, .long v13), (0, .int h), (1, .int l0)]) hx hb dX5_join_14 rfl hl (by decide) rfl (fun ls hl => ?_)
    refine lv_iload_n hx hb dX5_join_15 rfl (lv_at hl 1 rfl) ?_
    refine lv_i2l hx hb dX5_join_16 rfl ?_
    refine lv_topl (fun v16 e16 => ?_)
    have g16 := n_i2l e16
    refine lv_ldc2 (v := 4294967296) hx hb hown (hts _ q284) dX5_join_17 ?_
    refine lv_lmul hx hb dX5_join_20 ?_
    refine lv_topl (fun v20 e20 => ?_)
    have g20 := n_mul e20 (by rw [zW]; omega) (by rw [zW]; omega)
    rw [zW] at g20
    refine lv_lload_n hx hb dX5_join_21 rfl (lv_at hl 0 rfl) ?_
    refine lv_ladd hx hb dX5_join_22 ?_
    refine lv_topl (fun v22 e22 => ?_)
    have g22 := n_add e22 (by omega) (by omega)
    exact W.lret (v := v22) hx hb hr (fun t ht hW => ⟨v22, rfl, (show v22.toInt = jn h l0 from by unfold jn; omega), ht⟩) (fun q h => by cases h) dX5_join_23
abbrev wsX5_index : List Cond := ws_ yX5_index cX5_index 1 (some .int)
set_option maxHeartbeats 4000000 in
set_option maxRecDepth 100000 in
/-- the place of a point -/
theorem metX5_index (l : Launch) (a : Int32) : Met l yX5_index wsX5_index ({ frames := 0, cells := 0, slots := 0, locals := 0 }) (va_Pc [.int a] (fun _ => True)) (vp_Si (fun (r : Int32) => r = a &&& 1)) 0 0 (fun _ => False) := by
  refine Met.ofW (cc := cX5_index) (maxL := 1) (ret := (some .int)) (by decide) rfl ?_
  intro p e s m args below meth c s₁ B hml hv
  obtain ⟨rfl, -⟩ := hv
  have hx := B.exec
  have hb := B.bytes
  have hr := B.returns
  have hts := atoms_spec (ws := wsX5_index) B.pre
  have hts : ∀ w ∈ lw_all, w.before _ s = true := fun w h => hts w (List.mem_cons_of_mem _ h)
  have hown : s.vm.findClass RX5 = some m.cls := findClass_of_methodNamed B.named
  have hlocks := B.notSynchronized
  have hl := lv_entry ([.int a]) (n := 1) (Nat.le_of_ble_eq_true rfl)
  rw [lg_entry_eq]
  generalize (lg_sl ([.int a]) ++ List.replicate (1 - (lg_sl ([.int a])).length) Slot.unset).toArray = ls at hl ⊢
  have hl : lv_has ls 1 [(0, .int a)] := hl
  refine lv_iload_n hx hb dX5_index_0 rfl (lv_at hl 0 rfl) ?_
  refine lv_iconst (v := 1) hx hb dX5_index_1 (by decide) ?_
  refine lv_iand hx hb dX5_index_2 ?_
  refine lv_topi (fun v2 e2 => ?_)
  exact W.iret (v := v2) hx hb hr (fun t ht hW => ⟨v2, rfl, (show v2 = a &&& 1 from by exact e2), ht⟩) (fun q h => by cases h) dX5_index_3
abbrev wsX0_second : List Cond := ws_ yX0_second cX0_second 2 (some .long)
set_option maxHeartbeats 4000000 in
set_option maxRecDepth 100000 in
/-- two halves put together, cut to the range -/
theorem metX0_second (l : Launch) (h l0 : Int32) : Met l yX0_second wsX0_second ({ frames := 0, cells := 0, slots := 0, locals := 0 }) (va_Pc [.int h, .int l0] (fun _ => True)) (vp_Sl (fun (r : Int64) => r.toInt = (jn h l0).tmod 31000000000000000)) 0 0 (fun _ => False) := by
  refine Met.ofW (cc := cX0_second) (maxL := 2) (ret := (some .long)) (by decide) rfl ?_
  intro p e s m args below meth c s₁ B hml hv
  obtain ⟨rfl, -⟩ := hv
  have hx := B.exec
  have hb := B.bytes
  have hr := B.returns
  have hts := atoms_spec (ws := wsX0_second) B.pre
  have hts : ∀ w ∈ lw_all, w.before _ s = true := fun w h => hts w (List.mem_cons_of_mem _ h)
  have hown : s.vm.findClass RX0 = some m.cls := findClass_of_methodNamed B.named
  have hlocks := B.notSynchronized
  have hl := lv_entry ([.int h, .int l0]) (n := 2) (Nat.le_of_ble_eq_true rfl)
  rw [lg_entry_eq]
  generalize (lg_sl ([.int h, .int l0]) ++ List.replicate (2 - (lg_sl ([.int h, .int l0])).length) Slot.unset).toArray = ls at hl ⊢
  have hl : lv_has ls 2 [(0, .int h), (1, .int l0)] := hl
  refine lv_iload_n hx hb dX0_second_0 rfl (lv_at hl 0 rfl) ?_
  refine lv_i2l hx hb dX0_second_1 rfl ?_
  refine lv_topl (fun v1 e1 => ?_)
  refine lv_bipush (v := 32) hx hb dX0_second_2 (by decide) ?_
  refine lv_lshl hx hb dX0_second_4 rfl ?_
  refine lv_topl (fun v4 e4 => ?_)
  refine lv_iload_n hx hb dX0_second_5 rfl (lv_at hl 1 rfl) ?_
  refine lv_i2l hx hb dX0_second_6 rfl ?_
  refine lv_topl (fun v6 e6 => ?_)
  refine lv_ldc2 (v := 4294967295) hx hb hown (hts _ q156) dX0_second_7 ?_
  refine lv_land hx hb dX0_second_10 ?_
  refine lv_topl (fun v10 e10 => ?_)
  refine lv_lor hx hb dX0_second_11 ?_
  refine lv_topl (fun v11 e11 => ?_)
  have g11 := n_join e1 e4 e6 e10 e11
  refine lv_ldc2 (v := 31000000000000000) hx hb hown (hts _ q157) dX0_second_12 ?_
  refine lv_lrem hx hb dX0_second_15 (by decide) ?_
  refine lv_topl (fun v15 e15 => ?_)
  exact W.lret (v := v15) hx hb hr (fun t ht hW => ⟨v15, rfl, (show v15.toInt = (jn h l0).tmod 31000000000000000 from by rw [e15, n_rem' _ _ (by rw [zE]; decide), g11, zE]), ht⟩) (fun q h => by cases h) dX0_second_16
end
section
/-! WORLDS: the classes, what the heap holds of an Instant, the constant EPOCH, frames -/
abbrev vwCl : List vw_C := [(RX0, TX0, 1), (RX2, TX2, 2), (RX5, TX5, 2)]
/-- an Instant's cell: seconds and nanos -/
abbrev inst (x : Int64) (y : Int32) : va_E := .inr (1, [.long x, .int y])
theorem bl_rd {D : va_G} {cl : List vw_C} {tys : List (ClassId × FieldType)} {ws : va_W} {av : List Value} : FrameBlind (va_Pc av (fun U => va_K D cl tys U ∧ va_P D cl ws U.heap)) := fun a U g mk q => ⟨q.1, va_K.moved (u := U) (U := U.calling g mk a) (Vm.Alike.refl U.vm) q.2.1, q.2.2⟩
theorem va_A0 {sz q : Nat} (h : va_A [] sz q) : sz ≤ q := by
  rcases h with ⟨k, e, h⟩ | h
  · simp at h
  · exact h
theorem va_P1 {D : va_G} {cl : List vw_C} {q : Nat × va_E} {H : Heap} (h : va_at D cl q H) : va_P D cl [q] H := by
  intro k x hx
  have hz : k < 1 := (List.getElem?_eq_some_iff.mp hx).1
  rw [show k = 0 by omega] at hx
  cases hx
  exact h
theorem va_P0 {D : va_G} {cl : List vw_C} {H : Heap} : va_P D cl [] H := fun k x hx => by simp at hx
theorem va_D0 {A : Nat → Prop} : va_D A [] := ⟨fun i j p q h => by simp at h, fun k q h => by simp at h⟩
/-- the constant EPOCH: the static field holds ep, where an Instant of 0 and 0 stands; nobody writes it -/
def EPO (D : va_G) (ep : Nat) (A : Nat → Prop) (U : State) : Prop := va_Z RX2 "EPOCH" "LInstant;" (.ref ep) A U U.heap ∧ va_at D vwCl (ep, inst 0 0) U.heap ∧ ¬ A ep
theorem EPO.blind {D : va_G} {ep : Nat} {A : Nat → Prop} {U : State} {g : JFrame} {mk : MethodId} {a : Array Value} (h : EPO D ep A U) : EPO D ep A (U.calling g mk a) := ⟨va_Z.moved (u := U) (U := U.calling g mk a) (Vm.Alike.refl U.vm) h.1, h.2.1, h.2.2⟩
theorem EPO.call {D : va_G} {ep : Nat} {A A' : Nat → Prop} {s U : State} {H : Heap} {locs : List Loc} (h : EPO D ep A s) (hS : va_S A s.heap H locs) (hAA : ∀ q, A' q → A q) (hU : U.heap = H) (hW : s.vm.Alike U.vm) : EPO D ep A' U := by
  subst hU
  refine ⟨?_, h.2.1.kept (hS.2.1 ep h.2.1.lt h.2.2), fun q => h.2.2 (hAA _ q)⟩
  exact va_Z.moved hW (va_Z.narrow (va_Z.kept h.1 (H1 := U.heap) (fun a h1 h2 => hS.2.1 a h1 h2)) hAA)
theorem EPO.at {D : va_G} {ep : Nat} {A : Nat → Prop} {s : State} {H : Heap} {locs : List Loc} (h : EPO D ep A s) (hS : va_S A s.heap H locs) : va_at D vwCl (ep, inst 0 0) H := h.2.1.kept (hS.2.1 ep h.2.1.lt h.2.2)
/-- what a method that makes an Instant starts from -/
abbrev IPre (D : va_G) (ep sz : Nat) (ws : va_W) (U : State) : Prop := U.heap.size = sz ∧ va_K D vwCl [] U ∧ EPO D ep (va_A [] sz) U ∧ va_P D vwCl ws U.heap
theorem bl_i {D : va_G} {ep sz : Nat} {ws : va_W} {av : List Value} : FrameBlind (va_Pc av (IPre D ep sz ws)) := fun a U g mk q => ⟨q.1, q.2.1, va_K.moved (u := U) (U := U.calling g mk a) (Vm.Alike.refl U.vm) q.2.2.1, q.2.2.2.1.blind, q.2.2.2.2⟩
/-- .. and what it leaves: the answer's cell -/
abbrev IB (D : va_G) (ep sz : Nat) (ex : List Nat) (u : Int64 × Int32) (a : Nat) (t : State) : Prop := va_at D vwCl (a, inst u.1 u.2) t.heap ∧ (a = ep ∨ a ∈ ex ∨ sz ≤ a)
theorem ib_to {D : va_G} {ep sz : Nat} {ex : List Nat} {u : Int64 × Int32} {a : Nat} {t t' : State} (h : IB D ep sz ex u a t) (e : t'.heap = t.heap) : IB D ep sz ex u a t' := ⟨by rw [e]; exact h.1, h.2⟩
theorem bl_init {D : va_G} {cl : List vw_C} {tys : List (ClassId × FieldType)} {ws : va_W} {av : List Value} {sz : Nat} {A : Nat → Prop} : FrameBlind (va_Pc av (fun U => U.heap.size = sz ∧ va_P D cl ws U.heap ∧ va_K D cl tys U ∧ va_D A ws)) := fun a U g mk q => ⟨q.1, q.2.1, q.2.2.1, va_K.moved (u := U) (U := U.calling g mk a) (Vm.Alike.refl U.vm) q.2.2.2.1, q.2.2.2.2⟩
abbrev wsX1_init : List Cond := ws_ yX1_init cX1_init 1 (none)
set_option maxHeartbeats 4000000 in
set_option maxRecDepth 100000 in
/-- the empty constructor above Instant -/
theorem metX1_init (l : Launch) (h : Nat) : Met l yX1_init wsX1_init ({ frames := 1, cells := 0, slots := 0, locals := 12 }) (va_Pc [.ref h] (fun _ => True)) (va_Sv (fun _ => True)) 0 0 (fun _ => False) := by
  refine Met.ofW (cc := cX1_init) (maxL := 1) (ret := (none)) (by decide) rfl ?_
  intro p e s m args below meth c s₁ B hml hv
  obtain ⟨rfl, -⟩ := hv
  have hx := B.exec
  have hb := B.bytes
  have hr := B.returns
  have hts := atoms_spec (ws := wsX1_init) B.pre
  have hts : ∀ w ∈ lw_all, w.before _ s = true := fun w h => hts w (List.mem_cons_of_mem _ h)
  have hown : s.vm.findClass RX1 = some m.cls := findClass_of_methodNamed B.named
  have hlocks := B.notSynchronized
  have hin : meth.name = "<init>" := (name_of_methodNamed B.named B.method).1
  have hl := lv_entry ([.ref h]) (n := 1) (Nat.le_of_ble_eq_true rfl)
  rw [lg_entry_eq]
  generalize (lg_sl ([.ref h]) ++ List.replicate (1 - (lg_sl ([.ref h])).length) Slot.unset).toArray = ls at hl ⊢
  have hl : lv_has ls 1 [(0, .ref h)] := hl
  refine lv_aload_n hx hb dX1_init_0 rfl (lv_at hl 0 rfl) ?_
  refine W.objInit hx hb hown (hts _ q137) (hts _ q21) (hts _ q22) rfl (by rw [hml]; exact hl.1) rfl dX1_init_1 (Nat.le_of_ble_eq_true rfl) (Nat.le_of_ble_eq_true rfl) ?_
  refine W.eq (g2 := F0 m 4 ls []) rfl ?_
  exact W.vret hx hb hr (fun t ht hW => ⟨rfl, trivial, ht⟩) (fun q h => by cases h) dX1_init_4
abbrev wsX2_init : List Cond := ws_ yX2_init cX2_init 4 (none)
set_option maxHeartbeats 4000000 in
set_option maxRecDepth 100000 in
/-- Instant(x, y): the two fields are set -/
theorem metX2_init (l : Launch) (dC : Nat → ClassId) (dI : Nat → Nat → Nat) (h sz : Nat) (x0 x : Int64) (y0 y : Int32) : Met l yX2_init wsX2_init ({ frames := 2, cells := 0, slots := 0, locals := 32 }) (va_Pc [.ref h, .long x, .int y] (fun U => U.heap.size = sz ∧ va_P (dC, dI) vwCl [(h, inst x0 y0)] U.heap ∧ va_K (dC, dI) vwCl [] U ∧ va_D (fun _ => True) [(h, inst x0 y0)])) (va_Qv (fun _ : Unit => True) (fun _ t => va_P (dC, dI) vwCl [(h, inst x y)] t.heap ∧ va_D (va_A [(h, inst x0 y0)] sz) [(h, inst x y)]) (va_A [(h, inst x0 y0)] sz)) 0 0 (va_A [(h, inst x0 y0)] sz) := by
  refine Met.ofW (cc := cX2_init) (maxL := 4) (ret := (none)) (by decide) rfl ?_
  intro p e s m args below meth c s₁ B hml hv
  obtain ⟨rfl, hsz, hP, hK, hD0⟩ := hv
  have hx := B.exec
  have hb := B.bytes
  have hr := B.returns
  have hts := atoms_spec (ws := wsX2_init) B.pre
  have hts : ∀ w ∈ lw_all, w.before _ s = true := fun w h => hts w (List.mem_cons_of_mem _ h)
  have hown : s.vm.findClass RX2 = some m.cls := findClass_of_methodNamed B.named
  have hlocks := B.notSynchronized
  have hin : meth.name = "<init>" := (name_of_methodNamed B.named B.method).1
  subst hsz
  have hD := hD0.self (sz := s.heap.size)
  have hA : ∀ q : Nat, s.heap.size ≤ q → va_A [(h, inst x0 y0)] s.heap.size q := fun q h => Or.inr h
  have hS : va_S (va_A [(h, inst x0 y0)] s.heap.size) s.heap s.heap [] := va_S.rf
  have hl := lv_entry ([.ref h, .long x, .int y]) (n := 4) (Nat.le_of_ble_eq_true rfl)
  rw [lg_entry_eq]
  generalize (lg_sl ([.ref h, .long x, .int y]) ++ List.replicate (4 - (lg_sl ([.ref h, .long x, .int y])).length) Slot.unset).toArray = ls at hl ⊢
  have hl : lv_has ls 4 [(0, .ref h), (1, .long x), (3, .int y)] := hl
  refine lv_aload_n hx hb dX2_init_0 rfl (lv_at hl 0 rfl) ?_
  refine va_csv (W.runI (As := []) (rest := []) ⟨hx, hb, hml, hown, hts⟩ (metX1_init l h) (cwI 0 hts (lw_meth q136) rfl rfl rfl (hts _ q6) (hts _ q134) (hts _ q135) rfl (by decide +kernel) ⟨Nat.le_of_ble_eq_true rfl, Nat.le_of_ble_eq_true rfl⟩) ⟨bl_0, fun U hU hW => ⟨rfl, trivial⟩⟩ rfl rfl hl.1 rfl (lv_room (Nat.le_of_ble_eq_true rfl)) dX2_init_1 ⟨Nat.le_of_ble_eq_true rfl, Nat.le_of_ble_eq_true rfl⟩) (fun _ => ?_)
  refine lv_aload_n hx hb dX2_init_4 rfl (lv_at hl 0 rfl) ?_
  refine lv_lload_n hx hb dX2_init_5 rfl (lv_at hl 1 rfl) ?_
  refine va_putF (D := (dC, dI)) (ci := 1) (v := .long x) (ty := .long) (C := RX2) (T := TX2) (N := 2) hx hb hts in_X2 tyX2 tyX2_ok nmX2 hown hK hP hD hS 0 rfl rfl 0 (by decide) (hts _ q138) (fun _ h9 => h9) rfl hin rfl (by decide +kernel) rfl rfl (Nat.le_of_ble_eq_true rfl) dX2_init_6 (fun H locs hP hD hS => ?_)
  have hP : va_P (dC, dI) vwCl [(h, inst x y0)] H := hP
  have hD : va_D (va_A [(h, inst x0 y0)] s.heap.size) [(h, inst x y0)] := hD
  refine lv_aload_n hx hb dX2_init_9 rfl (lv_at hl 0 rfl) ?_
  refine lv_iload_n hx hb dX2_init_10 rfl (lv_at hl 2 rfl) ?_
  refine va_putF (D := (dC, dI)) (ci := 1) (v := .int y) (ty := .int) (C := RX2) (T := TX2) (N := 2) hx hb hts in_X2 tyX2 tyX2_ok nmX2 hown hK hP hD hS 0 rfl rfl 1 (by decide) (hts _ q139) (fun _ h9 => h9) rfl hin rfl (by decide +kernel) rfl rfl (Nat.le_of_ble_eq_true rfl) dX2_init_11 (fun H locs hP hD hS => ?_)
  have hP : va_P (dC, dI) vwCl [(h, inst x y)] H := hP
  have hD : va_D (va_A [(h, inst x0 y0)] s.heap.size) [(h, inst x y)] := hD
  exact W.vret hx hb hr (fun t ht hW => ⟨⟨(), rfl, trivial, by rw [ht]; exact hP, hD⟩, hS.F ht⟩) hS.2.2 dX2_init_14
abbrev wsX2_create : List Cond := ws_ yX2_create cX2_create 3 (some (.object "Instant"))
set_option maxHeartbeats 4000000 in
set_option maxRecDepth 100000 in
/-- create(x, y): EPOCH for 0 and 0, else a new Instant -/
theorem metX2_create (l : Launch) (dC : Nat → ClassId) (dI : Nat → Nat → Nat) (ep sz : Nat) (x : Int64) (y : Int32) (hx1 : -31557014167219200 ≤ x.toInt) (hx2 : x.toInt ≤ 31556889864403199) : Met l yX2_create wsX2_create ({ frames := 3, cells := 1, slots := 2, locals := 55 }) (va_Pc [.long x, .int y] (IPre (dC, dI) ep sz [])) (va_Qr (fun u : Int64 × Int32 => u = (x, y)) (IB (dC, dI) ep sz []) (va_A [] sz)) 1 2 (va_A [] sz) := by
  refine Met.ofW (cc := cX2_create) (maxL := 3) (ret := (some (.object "Instant"))) (by decide) rfl ?_
  intro p e s m args below meth c s₁ B hml hv
  obtain ⟨rfl, hsz, hK, hE, hP⟩ := hv
  have hx := B.exec
  have hb := B.bytes
  have hr := B.returns
  have hts := atoms_spec (ws := wsX2_create) B.pre
  have hts : ∀ w ∈ lw_all, w.before _ s = true := fun w h => hts w (List.mem_cons_of_mem _ h)
  have hown : s.vm.findClass RX2 = some m.cls := findClass_of_methodNamed B.named
  have hlocks := B.notSynchronized
  subst hsz
  have hA : ∀ q : Nat, s.heap.size ≤ q → va_A [] s.heap.size q := fun q h => Or.inr h
  have hS : va_S (va_A [] s.heap.size) s.heap s.heap [] := va_S.rf
  have hP : va_P (dC, dI) vwCl [] s.heap := hP
  have hl := lv_entry ([.long x, .int y]) (n := 3) (Nat.le_of_ble_eq_true rfl)
  rw [lg_entry_eq]
  generalize (lg_sl ([.long x, .int y]) ++ List.replicate (3 - (lg_sl ([.long x, .int y])).length) Slot.unset).toArray = ls at hl ⊢
  have hl : lv_has ls 3 [(0, .long x), (2, .int y)] := hl
  refine lv_lload_n hx hb dX2_create_0 rfl (lv_at hl 0 rfl) ?_
  refine lv_iload_n hx hb dX2_create_1 rfl (lv_at hl 1 rfl) ?_
  refine lv_i2l hx hb dX2_create_2 rfl ?_
  refine lv_topl (fun v2 e2 => ?_)
  refine lv_lor hx hb dX2_create_3 ?_
  refine lv_topl (fun v3 e3 => ?_)
  refine lv_lconst (v := 0) hx hb dX2_create_4 (by decide) ?_
  refine W.lcmp hx hb dX2_create_5 ?_
  refine lv_if_ne (tgt := 13) hx hb dX2_create_6 (by decide) (fun c6 => ?_) (fun c6 => ?_)
  · have k6 := mt n_eq.mpr c6
    rw [z0] at k6
    refine lv_lload_n hx hb dX2_create_13 rfl (lv_at hl 0 rfl) ?_
    refine lv_ldc2 (v := (-31557014167219200)) hx hb hown (hts _ q111) dX2_create_14 ?_
    refine W.lcmp hx hb dX2_create_17 ?_
    refine lv_if_lt (tgt := 29) hx hb dX2_create_18 (by decide) (fun c18 => ?_) (fun c18 => ?_)
    · have k18 := n_lt.mp c18
      rw [zmn] at k18
      exfalso; omega
    · have k18 := mt n_lt.mpr c18
      rw [zmn] at k18
      refine lv_lload_n hx hb dX2_create_21 rfl (lv_at hl 0 rfl) ?_
      refine lv_ldc2 (v := 31556889864403199) hx hb hown (hts _ q112) dX2_create_22 ?_
      refine W.lcmp hx hb dX2_create_25 ?_
      refine lv_if_le (tgt := 39) hx hb dX2_create_26 (by decide) (fun c26 => ?_) (fun c26 => ?_)
      · have k26 := n_le.mp c26
        rw [zmx] at k26
        refine va_new (ci := 1) (fs := [.long 0, .int 0]) (C := RX2) (T := TX2) (N := 2) hx hb hts in_X2 tyX2 tyX2_ok hown (hts _ q129) (hts _ q130) (hts _ q7) hK va_P0 va_D0 hS hA rfl (fun j hj => by rcases (show j = 0 ∨ j = 1 by omega) with rfl | rfl <;> rfl) (Nat.le_of_ble_eq_true rfl) (Nat.le_of_ble_eq_true rfl) dX2_create_39 (fun qn H hP hD hS => ?_)
        have hP : va_P (dC, dI) vwCl [(qn, inst 0 0)] H := hP
        have hD : va_D (va_A [] s.heap.size) [(qn, inst 0 0)] := hD
        refine W.widen (k := 1) (n := 2) (Nat.le_of_ble_eq_true rfl) (Nat.le_of_ble_eq_true rfl) ?_
        refine lv_dup hx hb dX2_create_42 rfl ?_
        refine lv_lload_n hx hb dX2_create_43 rfl (lv_at hl 0 rfl) ?_
        refine lv_iload_n hx hb dX2_create_44 rfl (lv_at hl 1 rfl) ?_
        have hF45 := va_free (wc := [(qn, inst 0 0)]) hD hS hA [0] rfl
        refine va_callv (va_runI (As := [.long x, .int y]) (rest := [.ref qn]) ⟨hx, hb, hml, hown, hts⟩ (metX2_init l dC dI qn H.size 0 x 0 y) (cwI 2 hts (lw_meth q133) rfl rfl rfl (hts _ q7) (hts _ q131) (hts _ q132) rfl (by decide +kernel) ⟨Nat.le_of_ble_eq_true rfl, Nat.le_of_ble_eq_true rfl⟩) ⟨bl_init, fun U hU hW => ⟨rfl, by rw [hU], by rw [hU]; exact hP, va_K.moved hW.alike hK, hD.weaken (fun _ _ _ _ => trivial)⟩⟩ rfl rfl hl.1 rfl (lv_room (Nat.le_of_ble_eq_true rfl)) dX2_create_45 ⟨Nat.le_of_ble_eq_true rfl, Nat.le_of_ble_eq_true rfl⟩) hS (fun q _ h => hF45 q h) hF45 (fun u45 t45 H45 locs ht hvm hw45 hB45 hz45 hk45 hS => ?_)
        subst ht
        obtain ⟨hP1, hD1⟩ := hB45
        exact W.aret (v := .ref qn) hx hb hr (Or.inl ⟨_, rfl⟩) (Or.inr ⟨_, rfl⟩) (fun t ht hW => ⟨⟨(x, y), qn, rfl, rfl, ⟨by rw [ht]; exact hP1 0 _ rfl, Or.inr (Or.inr (va_A0 (hD.2 0 _ rfl)))⟩⟩, hS.F ht⟩) hS.2.2 dX2_create_48
      · have k26 := mt n_le.mpr c26
        rw [zmx] at k26
        exfalso; omega
  · have k6 := n_eq.mp c6
    rw [z0] at k6
    refine va_gets (C := RX2) (n := "EPOCH") (d := "LInstant;") (v := .ref ep) hx hb hE.1 hS hown (hts _ q109) (fun _ h9 => h9) dX2_create_9 ?_
    have z3 : v3 = 0 := Int64.toInt_inj.mp (k6.trans z0.symm)
    rw [e3, n_or] at z3
    obtain ⟨rfl, z2⟩ := z3
    have hy : y = 0 := by
      have t2 := n_i2l e2
      rw [z2, z0] at t2
      exact Int32.toInt_inj.mp (t2.symm.trans i0.symm)
    subst hy
    refine W.widen (k := 1) (n := 2) (Nat.le_of_ble_eq_true rfl) (Nat.le_of_ble_eq_true rfl) ?_
    exact W.aret (v := .ref ep) hx hb hr (Or.inl ⟨_, rfl⟩) (Or.inr ⟨_, rfl⟩) (fun t ht hW => ⟨⟨(0, 0), ep, rfl, rfl, ⟨by rw [ht]; exact hE.2.1, Or.inl rfl⟩⟩, hS.F ht⟩) hS.2.2 dX2_create_12
abbrev wsX2_ofEpochSecond : List Cond := ws_ yX2_ofEpochSecond cX2_ofEpochSecond 7 (some (.object "Instant"))
set_option maxHeartbeats 4000000 in
set_option maxRecDepth 100000 in
/-- ofEpochSecond(x, b) -/
theorem metX2_ofEpochSecond (l : Launch) (dC : Nat → ClassId) (dI : Nat → Nat → Nat) (ep sz : Nat) (x b : Int64) (hx1 : -31500000000000000 ≤ x.toInt) (hx2 : x.toInt ≤ 31500000000000000) (hb1 : -4000000000 ≤ b.toInt) (hb2 : b.toInt ≤ 4000000000) : Met l yX2_ofEpochSecond wsX2_ofEpochSecond ({ frames := 4, cells := 1, slots := 2, locals := 77 }) (va_Pc [.long x, .long b] (IPre (dC, dI) ep sz [])) (va_Qr (fun u : Int64 × Int32 => u.1.toInt = x.toInt + b.toInt / 1000000000 ∧ u.2.toInt = b.toInt % 1000000000) (IB (dC, dI) ep sz []) (va_A [] sz)) 1 2 (va_A [] sz) := by
  refine Met.ofW (cc := cX2_ofEpochSecond) (maxL := 7) (ret := (some (.object "Instant"))) (by decide) rfl ?_
  intro p e s m args below meth c s₁ B hml hv
  obtain ⟨rfl, hsz, hK, hE, hP⟩ := hv
  have hx := B.exec
  have hb := B.bytes
  have hr := B.returns
  have hts := atoms_spec (ws := wsX2_ofEpochSecond) B.pre
  have hts : ∀ w ∈ lw_all, w.before _ s = true := fun w h => hts w (List.mem_cons_of_mem _ h)
  have hown : s.vm.findClass RX2 = some m.cls := findClass_of_methodNamed B.named
  have hlocks := B.notSynchronized
  subst hsz
  have hA : ∀ q : Nat, s.heap.size ≤ q → va_A [] s.heap.size q := fun q h => Or.inr h
  have hS : va_S (va_A [] s.heap.size) s.heap s.heap [] := va_S.rf
  have hP : va_P (dC, dI) vwCl [] s.heap := hP
  have hl := lv_entry ([.long x, .long b]) (n := 7) (Nat.le_of_ble_eq_true rfl)
  rw [lg_entry_eq]
  generalize (lg_sl ([.long x, .long b]) ++ List.replicate (7 - (lg_sl ([.long x, .long b])).length) Slot.unset).toArray = ls at hl ⊢
  have hl : lv_has ls 7 [(0, .long x), (2, .long b)] := hl
  refine lv_lload_n hx hb dX2_ofEpochSecond_0 rfl (lv_at hl 0 rfl) ?_
  refine lv_lload_n hx hb dX2_ofEpochSecond_1 rfl (lv_at hl 1 rfl) ?_
  refine lv_ldc2 (v := 1000000000) hx hb hown (hts _ q28) dX2_ofEpochSecond_2 ?_
  refine vp_callSl (W.runS (As := [.long b, .long 1000000000]) (rest := [.long x]) ⟨hx, hb, hml, hown, hts⟩ (metX3_floorDiv l b 1000000000 1000000000 zG (Or.inl rfl)) (va_cwS 2 hts (lw_S q29 q30 q8 q31) rfl rfl rfl (by decide +kernel) ⟨Nat.le_of_ble_eq_true rfl, Nat.le_of_ble_eq_true rfl⟩) ⟨bl_0, fun U hU hW => ⟨rfl, trivial⟩⟩ rfl rfl hl.1 rfl (lv_room (Nat.le_of_ble_eq_true rfl)) dX2_ofEpochSecond_5 ⟨Nat.le_of_ble_eq_true rfl, Nat.le_of_ble_eq_true rfl⟩) (fun r5 hr5 => ?_)
  have hr5 : r5.toInt = b.toInt / 1000000000 := hr5
  refine vp_callSl (W.runS (As := [.long x, .long r5]) (rest := []) ⟨hx, hb, hml, hown, hts⟩ (metX3_safeAdd l x r5 (by omega) (by omega)) (va_cwS 2 hts (lw_S q32 q33 q8 q34) rfl rfl rfl (by decide +kernel) ⟨Nat.le_of_ble_eq_true rfl, Nat.le_of_ble_eq_true rfl⟩) ⟨bl_0, fun U hU hW => ⟨rfl, trivial⟩⟩ rfl rfl hl.1 rfl (lv_room (Nat.le_of_ble_eq_true rfl)) dX2_ofEpochSecond_8 ⟨Nat.le_of_ble_eq_true rfl, Nat.le_of_ble_eq_true rfl⟩) (fun r8 hr8 => ?_)
  have hr8 : r8.toInt = x.toInt + r5.toInt := hr8
  refine lv_lstore (lv' := [(4, .long r8), (0, .long x), (2, .long b)]) hx hb dX2_ofEpochSecond_11 hl (by decide) rfl (fun ls hl => ?_)
  refine lv_lload_n hx hb dX2_ofEpochSecond_13 rfl (lv_at hl 2 rfl) ?_
  refine lv_ldc (v := 1000000000) hx hb hown (hts _ q102) dX2_ofEpochSecond_14 ?_
  refine vp_callSi (W.runS (As := [.long b, .int 1000000000]) (rest := []) ⟨hx, hb, hml, hown, hts⟩ (metX3_floorMod l b 1000000000 1000000000 iG (Or.inl rfl)) (va_cwS 2 hts (lw_S q103 q104 q8 q105) rfl rfl rfl (by decide +kernel) ⟨Nat.le_of_ble_eq_true rfl, Nat.le_of_ble_eq_true rfl⟩) ⟨bl_0, fun U hU hW => ⟨rfl, trivial⟩⟩ rfl rfl hl.1 rfl (lv_room (Nat.le_of_ble_eq_true rfl)) dX2_ofEpochSecond_16 ⟨Nat.le_of_ble_eq_true rfl, Nat.le_of_ble_eq_true rfl⟩) (fun r16 hr16 => ?_)
  have hr16 : r16.toInt = b.toInt % 1000000000 := hr16
  refine lv_istore (lv' := [(6, .int r16), (4, .long r8), (0, .long x), (2, .long b)]) hx hb dX2_ofEpochSecond_19 hl (by decide) rfl (fun ls hl => ?_)
  refine lv_lload hx hb dX2_ofEpochSecond_21 (lv_at hl 1 rfl) ?_
  refine lv_iload hx hb dX2_ofEpochSecond_23 (lv_at hl 0 rfl) ?_
  have hF25 : ∀ q, va_A [] s.heap.size q → va_A [] s.heap.size q := fun _ h => h
  refine va_callr (va_runS (As := [.long r8, .int r16]) (rest := []) ⟨hx, hb, hml, hown, hts⟩ (metX2_create l dC dI ep s.heap.size r8 r16 (by omega) (by omega)) (va_cwS 2 hts (lw_S q106 q107 q7 q108) rfl rfl rfl (by decide +kernel) ⟨Nat.le_of_ble_eq_true rfl, Nat.le_of_ble_eq_true rfl⟩) ⟨bl_i, fun U hU hW => ⟨rfl, by rw [hU], va_K.moved hW.alike hK, hE.call hS hF25 hU hW.alike, by rw [hU]; exact va_P0⟩⟩ rfl rfl hl.1 rfl (lv_room (Nat.le_of_ble_eq_true rfl)) dX2_ofEpochSecond_25 ⟨Nat.le_of_ble_eq_true rfl, Nat.le_of_ble_eq_true rfl⟩) hS (fun q _ h => hF25 q h) hF25 (fun u25 a25 t25 H25 locs ht hvm hw25 hB25 hz25 hk25 hS => ?_)
  subst ht
  have hw25 : u25 = (r8, r16) := hw25
  subst hw25
  exact W.aret (v := .ref a25) hx hb hr (Or.inl ⟨_, rfl⟩) (Or.inr ⟨_, rfl⟩) (fun t ht hW => ⟨⟨(r8, r16), a25, rfl, ⟨(show r8.toInt = x.toInt + b.toInt / 1000000000 from by omega), hr16⟩, ib_to hB25 ht⟩, hS.F ht⟩) hS.2.2 dX2_ofEpochSecond_28
abbrev wsX2_ofEpochMilli : List Cond := ws_ yX2_ofEpochMilli cX2_ofEpochMilli 5 (some (.object "Instant"))
set_option maxHeartbeats 4000000 in
set_option maxRecDepth 100000 in
/-- ofEpochMilli(x) -/
theorem metX2_ofEpochMilli (l : Launch) (dC : Nat → ClassId) (dI : Nat → Nat → Nat) (ep sz : Nat) (x : Int64) : Met l yX2_ofEpochMilli wsX2_ofEpochMilli ({ frames := 4, cells := 1, slots := 2, locals := 77 }) (va_Pc [.long x] (IPre (dC, dI) ep sz [])) (va_Qr (fun u : Int64 × Int32 => u.1.toInt = x.toInt / 1000 ∧ u.2.toInt = x.toInt % 1000 * 1000000) (IB (dC, dI) ep sz []) (va_A [] sz)) 1 2 (va_A [] sz) := by
  refine Met.ofW (cc := cX2_ofEpochMilli) (maxL := 5) (ret := (some (.object "Instant"))) (by decide) rfl ?_
  intro p e s m args below meth c s₁ B hml hv
  obtain ⟨rfl, hsz, hK, hE, hP⟩ := hv
  have hx := B.exec
  have hb := B.bytes
  have hr := B.returns
  have hts := atoms_spec (ws := wsX2_ofEpochMilli) B.pre
  have hts : ∀ w ∈ lw_all, w.before _ s = true := fun w h => hts w (List.mem_cons_of_mem _ h)
  have hown : s.vm.findClass RX2 = some m.cls := findClass_of_methodNamed B.named
  have hlocks := B.notSynchronized
  subst hsz
  have hA : ∀ q : Nat, s.heap.size ≤ q → va_A [] s.heap.size q := fun q h => Or.inr h
  have hS : va_S (va_A [] s.heap.size) s.heap s.heap [] := va_S.rf
  have hP : va_P (dC, dI) vwCl [] s.heap := hP
  have hl := lv_entry ([.long x]) (n := 5) (Nat.le_of_ble_eq_true rfl)
  rw [lg_entry_eq]
  generalize (lg_sl ([.long x]) ++ List.replicate (5 - (lg_sl ([.long x])).length) Slot.unset).toArray = ls at hl ⊢
  have hl : lv_has ls 5 [(0, .long x)] := hl
  have nx1 := n_lo x
  have nx2 := n_hi x
  refine lv_lload_n hx hb dX2_ofEpochMilli_0 rfl (lv_at hl 0 rfl) ?_
  refine lv_ldc2 (v := 1000) hx hb hown (hts _ q184) dX2_ofEpochMilli_1 ?_
  refine vp_callSl (W.runS (As := [.long x, .long 1000]) (rest := []) ⟨hx, hb, hml, hown, hts⟩ (metX3_floorDiv l x 1000 1000 z1000 (Or.inr rfl)) (va_cwS 2 hts (lw_S q29 q30 q8 q31) rfl rfl rfl (by decide +kernel) ⟨Nat.le_of_ble_eq_true rfl, Nat.le_of_ble_eq_true rfl⟩) ⟨bl_0, fun U hU hW => ⟨rfl, trivial⟩⟩ rfl rfl hl.1 rfl (lv_room (Nat.le_of_ble_eq_true rfl)) dX2_ofEpochMilli_4 ⟨Nat.le_of_ble_eq_true rfl, Nat.le_of_ble_eq_true rfl⟩) (fun r4 hr4 => ?_)
  have hr4 : r4.toInt = x.toInt / 1000 := hr4
  refine lv_lstore_n (lv' := [(2, .long r4), (0, .long x)]) hx hb dX2_ofEpochMilli_7 rfl hl (by decide) rfl (fun ls hl => ?_)
  refine lv_lload_n hx hb dX2_ofEpochMilli_8 rfl (lv_at hl 1 rfl) ?_
  refine lv_sipush (v := 1000) hx hb dX2_ofEpochMilli_9 (by decide) ?_
  refine vp_callSi (W.runS (As := [.long x, .int 1000]) (rest := []) ⟨hx, hb, hml, hown, hts⟩ (metX3_floorMod l x 1000 1000 i1000 (Or.inr rfl)) (va_cwS 2 hts (lw_S q103 q104 q8 q105) rfl rfl rfl (by decide +kernel) ⟨Nat.le_of_ble_eq_true rfl, Nat.le_of_ble_eq_true rfl⟩) ⟨bl_0, fun U hU hW => ⟨rfl, trivial⟩⟩ rfl rfl hl.1 rfl (lv_room (Nat.le_of_ble_eq_true rfl)) dX2_ofEpochMilli_12 ⟨Nat.le_of_ble_eq_true rfl, Nat.le_of_ble_eq_true rfl⟩) (fun r12 hr12 => ?_)
  have hr12 : r12.toInt = x.toInt % 1000 := hr12
  refine lv_istore (lv' := [(4, .int r12), (2, .long r4), (0, .long x)]) hx hb dX2_ofEpochMilli_15 hl (by decide) rfl (fun ls hl => ?_)
  refine lv_lload_n hx hb dX2_ofEpochMilli_17 rfl (lv_at hl 1 rfl) ?_
  refine lv_iload hx hb dX2_ofEpochMilli_18 (lv_at hl 0 rfl) ?_
  refine lv_ldc (v := 1000000) hx hb hown (hts _ q201) dX2_ofEpochMilli_20 ?_
  refine lv_imul hx hb dX2_ofEpochMilli_22 ?_
  refine lv_topi (fun v22 e22 => ?_)
  have g22 := n_mul32 e22 (by rw [iM]; omega) (by rw [iM]; omega)
  rw [iM] at g22
  have hF23 : ∀ q, va_A [] s.heap.size q → va_A [] s.heap.size q := fun _ h => h
  refine va_callr (va_runS (As := [.long r4, .int v22]) (rest := []) ⟨hx, hb, hml, hown, hts⟩ (metX2_create l dC dI ep s.heap.size r4 v22 (by omega) (by omega)) (va_cwS 2 hts (lw_S q106 q107 q7 q108) rfl rfl rfl (by decide +kernel) ⟨Nat.le_of_ble_eq_true rfl, Nat.le_of_ble_eq_true rfl⟩) ⟨bl_i, fun U hU hW => ⟨rfl, by rw [hU], va_K.moved hW.alike hK, hE.call hS hF23 hU hW.alike, by rw [hU]; exact va_P0⟩⟩ rfl rfl hl.1 rfl (lv_room (Nat.le_of_ble_eq_true rfl)) dX2_ofEpochMilli_23 ⟨Nat.le_of_ble_eq_true rfl, Nat.le_of_ble_eq_true rfl⟩) hS (fun q _ h => hF23 q h) hF23 (fun u23 a23 t23 H23 locs ht hvm hw23 hB23 hz23 hk23 hS => ?_)
  subst ht
  have hw23 : u23 = (r4, v22) := hw23
  subst hw23
  exact W.aret (v := .ref a23) hx hb hr (Or.inl ⟨_, rfl⟩) (Or.inr ⟨_, rfl⟩) (fun t ht hW => ⟨⟨(r4, v22), a23, rfl, ⟨hr4, (show v22.toInt = x.toInt % 1000 * 1000000 from by omega)⟩, ib_to hB23 ht⟩, hS.F ht⟩) hS.2.2 dX2_ofEpochMilli_26
abbrev wsX2_plus : List Cond := ws_ yX2_plus cX2_plus 9 (some (.object "Instant"))
set_option maxHeartbeats 4000000 in
set_option maxRecDepth 100000 in
/-- plus(a, b) on an Instant of x and y -/
theorem metX2_plus (l : Launch) (dC : Nat → ClassId) (dI : Nat → Nat → Nat) (ep sz : Nat) (h : Nat) (x : Int64) (y : Int32) (a b : Int64) (hx1 : -31000000000000000 ≤ x.toInt) (hx2 : x.toInt ≤ 31000000000000000) (hy1 : 0 ≤ y.toInt) (hy2 : y.toInt < 1000000000) (ha1 : -2147483648 ≤ a.toInt) (ha2 : a.toInt ≤ 2147483648) (hb1 : -2147483648 ≤ b.toInt) (hb2 : b.toInt ≤ 2147483648) : Met l yX2_plus wsX2_plus ({ frames := 5, cells := 1, slots := 2, locals := 103 }) (va_Pc [.ref h, .long a, .long b] (IPre (dC, dI) ep sz [(h, inst x y)])) (va_Qr (fun u : Int64 × Int32 => u.1.toInt = x.toInt + a.toInt + (y.toInt + b.toInt) / 1000000000 ∧ u.2.toInt = (y.toInt + b.toInt) % 1000000000) (IB (dC, dI) ep sz [h]) (va_A [] sz)) 1 2 (va_A [] sz) := by
  refine Met.ofW (cc := cX2_plus) (maxL := 9) (ret := (some (.object "Instant"))) (by decide) rfl ?_
  intro p e s m args below meth c s₁ B hml hv
  obtain ⟨rfl, hsz, hK, hE, hP⟩ := hv
  have hx := B.exec
  have hb := B.bytes
  have hr := B.returns
  have hts := atoms_spec (ws := wsX2_plus) B.pre
  have hts : ∀ w ∈ lw_all, w.before _ s = true := fun w h => hts w (List.mem_cons_of_mem _ h)
  have hown : s.vm.findClass RX2 = some m.cls := findClass_of_methodNamed B.named
  have hlocks := B.notSynchronized
  subst hsz
  have hA : ∀ q : Nat, s.heap.size ≤ q → va_A [] s.heap.size q := fun q h => Or.inr h
  have hS : va_S (va_A [] s.heap.size) s.heap s.heap [] := va_S.rf
  have hP : va_P (dC, dI) vwCl [(h, inst x y)] s.heap := hP
  have hl := lv_entry ([.ref h, .long a, .long b]) (n := 9) (Nat.le_of_ble_eq_true rfl)
  rw [lg_entry_eq]
  generalize (lg_sl ([.ref h, .long a, .long b]) ++ List.replicate (9 - (lg_sl ([.ref h, .long a, .long b])).length) Slot.unset).toArray = ls at hl ⊢
  have hl : lv_has ls 9 [(0, .ref h), (1, .long a), (3, .long b)] := hl
  refine lv_lload_n hx hb dX2_plus_0 rfl (lv_at hl 1 rfl) ?_
  refine lv_lload_n hx hb dX2_plus_1 rfl (lv_at hl 2 rfl) ?_
  refine lv_lor hx hb dX2_plus_2 ?_
  refine lv_topl (fun v2 e2 => ?_)
  refine lv_lconst (v := 0) hx hb dX2_plus_3 (by decide) ?_
  refine W.lcmp hx hb dX2_plus_4 ?_
  refine lv_if_ne (tgt := 10) hx hb dX2_plus_5 (by decide) (fun c5 => ?_) (fun c5 => ?_)
  · have k5 := mt n_eq.mpr c5
    rw [z0] at k5
    refine lv_aload_n hx hb dX2_plus_10 rfl (lv_at hl 0 rfl) ?_
    refine va_get (D := (dC, dI)) (ci := 1) (v := .long x) (C := RX2) (T := TX2) (N := 2) hx hb hts in_X2 hown hK hP 0 rfl rfl 0 (by decide) (hts _ q138) (fun _ h9 => h9) rfl dX2_plus_11 ?_
    refine lv_lload_n hx hb dX2_plus_14 rfl (lv_at hl 1 rfl) ?_
    refine vp_callSl (W.runS (As := [.long x, .long a]) (rest := []) ⟨hx, hb, hml, hown, hts⟩ (metX3_safeAdd l x a (by omega) (by omega)) (va_cwS 2 hts (lw_S q32 q33 q8 q34) rfl rfl rfl (by decide +kernel) ⟨Nat.le_of_ble_eq_true rfl, Nat.le_of_ble_eq_true rfl⟩) ⟨bl_0, fun U hU hW => ⟨rfl, trivial⟩⟩ rfl rfl hl.1 rfl (lv_room (Nat.le_of_ble_eq_true rfl)) dX2_plus_15 ⟨Nat.le_of_ble_eq_true rfl, Nat.le_of_ble_eq_true rfl⟩) (fun r15 hr15 => ?_)
    have hr15 : r15.toInt = x.toInt + a.toInt := hr15
    refine lv_lstore (lv' := [(5, .long r15), (0, .ref h), (1, .long a), (3, .long b)]) hx hb dX2_plus_18 hl (by decide) rfl (fun ls hl => ?_)
    refine lv_lload hx hb dX2_plus_20 (lv_at hl 0 rfl) ?_
    refine lv_lload_n hx hb dX2_plus_22 rfl (lv_at hl 3 rfl) ?_
    refine lv_ldc2 (v := 1000000000) hx hb hown (hts _ q28) dX2_plus_23 ?_
    refine lv_ldiv hx hb dX2_plus_26 (by decide) ?_
    refine lv_topl (fun v26 e26 => ?_)
    have g26 := n_div e26 1000000000 zG (by decide)
    refine vp_callSl (W.runS (As := [.long r15, .long v26]) (rest := []) ⟨hx, hb, hml, hown, hts⟩ (metX3_safeAdd l r15 v26 (by omega) (by omega)) (va_cwS 2 hts (lw_S q32 q33 q8 q34) rfl rfl rfl (by decide +kernel) ⟨Nat.le_of_ble_eq_true rfl, Nat.le_of_ble_eq_true rfl⟩) ⟨bl_0, fun U hU hW => ⟨rfl, trivial⟩⟩ rfl rfl hl.1 rfl (lv_room (Nat.le_of_ble_eq_true rfl)) dX2_plus_27 ⟨Nat.le_of_ble_eq_true rfl, Nat.le_of_ble_eq_true rfl⟩) (fun r27 hr27 => ?_)
    have hr27 : r27.toInt = r15.toInt + v26.toInt := hr27
    refine lv_lstore (lv' := [(5, .long r27), (0, .ref h), (1, .long a), (3, .long b)]) hx hb dX2_plus_30 hl (by decide) rfl (fun ls hl => ?_)
    refine lv_lload_n hx hb dX2_plus_32 rfl (lv_at hl 3 rfl) ?_
    refine lv_ldc2 (v := 1000000000) hx hb hown (hts _ q28) dX2_plus_33 ?_
    refine lv_lrem hx hb dX2_plus_36 (by decide) ?_
    refine lv_topl (fun v36 e36 => ?_)
    have g36 := n_rem e36 1000000000 zG (by decide)
    refine lv_lstore_n (lv' := [(3, .long v36), (5, .long r27), (0, .ref h), (1, .long a)]) hx hb dX2_plus_37 rfl hl (by decide) rfl (fun ls hl => ?_)
    refine lv_aload_n hx hb dX2_plus_38 rfl (lv_at hl 2 rfl) ?_
    refine va_get (D := (dC, dI)) (ci := 1) (v := .int y) (C := RX2) (T := TX2) (N := 2) hx hb hts in_X2 hown hK hP 0 rfl rfl 1 (by decide) (hts _ q139) (fun _ h9 => h9) rfl dX2_plus_39 ?_
    refine lv_i2l hx hb dX2_plus_42 rfl ?_
    refine lv_topl (fun v42 e42 => ?_)
    have g42 := n_i2l e42
    refine lv_lload_n hx hb dX2_plus_43 rfl (lv_at hl 0 rfl) ?_
    refine lv_ladd hx hb dX2_plus_44 ?_
    refine lv_topl (fun v44 e44 => ?_)
    have g44 := n_add e44 (by omega) (by omega)
    refine lv_lstore (lv' := [(7, .long v44), (3, .long v36), (5, .long r27), (0, .ref h), (1, .long a)]) hx hb dX2_plus_45 hl (by decide) rfl (fun ls hl => ?_)
    refine lv_lload hx hb dX2_plus_47 (lv_at hl 2 rfl) ?_
    refine lv_lload hx hb dX2_plus_49 (lv_at hl 0 rfl) ?_
    have hF51 : ∀ q, va_A [] s.heap.size q → va_A [] s.heap.size q := fun _ h => h
    refine va_callr (va_runS (As := [.long r27, .long v44]) (rest := []) ⟨hx, hb, hml, hown, hts⟩ (metX2_ofEpochSecond l dC dI ep s.heap.size r27 v44 (by omega) (by omega) (by omega) (by omega)) (va_cwS 2 hts (lw_S q175 q26 q7 q27) rfl rfl rfl (by decide +kernel) ⟨Nat.le_of_ble_eq_true rfl, Nat.le_of_ble_eq_true rfl⟩) ⟨bl_i, fun U hU hW => ⟨rfl, by rw [hU], va_K.moved hW.alike hK, hE.call hS hF51 hU hW.alike, by rw [hU]; exact va_P0⟩⟩ rfl rfl hl.1 rfl (lv_room (Nat.le_of_ble_eq_true rfl)) dX2_plus_51 ⟨Nat.le_of_ble_eq_true rfl, Nat.le_of_ble_eq_true rfl⟩) hS (fun q _ h => hF51 q h) hF51 (fun u51 a51 t51 H51 locs ht hvm hw51 hB51 hz51 hk51 hS => ?_)
    subst ht
    obtain ⟨f1, f2⟩ := u51
    obtain ⟨hw1, hw2⟩ := hw51
    dsimp only at hw1 hw2
    obtain ⟨hB1, hB2⟩ := hB51
    exact W.aret (v := .ref a51) hx hb hr (Or.inl ⟨_, rfl⟩) (Or.inr ⟨_, rfl⟩) (fun t ht hW => ⟨⟨(f1, f2), a51, rfl, ⟨(show f1.toInt = x.toInt + a.toInt + (y.toInt + b.toInt) / 1000000000 from by omega), (show f2.toInt = (y.toInt + b.toInt) % 1000000000 from by omega)⟩, ⟨by rw [ht]; exact hB1, hB2.elim Or.inl (fun h => h.elim (fun h => by cases h) (fun h => Or.inr (Or.inr h)))⟩⟩, hS.F ht⟩) hS.2.2 dX2_plus_54
  · have k5 := n_eq.mp c5
    rw [z0] at k5
    refine lv_aload_n hx hb dX2_plus_8 rfl (lv_at hl 0 rfl) ?_
    have z2 : v2 = 0 := Int64.toInt_inj.mp (k5.trans z0.symm)
    rw [e2, n_or] at z2
    obtain ⟨rfl, rfl⟩ := z2
    refine W.widen (k := 1) (n := 2) (Nat.le_of_ble_eq_true rfl) (Nat.le_of_ble_eq_true rfl) ?_
    exact W.aret (v := .ref h) hx hb hr (Or.inl ⟨_, rfl⟩) (Or.inr ⟨_, rfl⟩) (fun t ht hW => ⟨⟨(x, y), h, rfl, ⟨(show x.toInt = x.toInt + (0 : Int64).toInt + (y.toInt + (0 : Int64).toInt) / 1000000000 from by rw [z0]; omega), (show y.toInt = (y.toInt + (0 : Int64).toInt) % 1000000000 from by rw [z0]; omega)⟩, ⟨by rw [ht]; exact hP 0 _ rfl, Or.inr (Or.inl List.mem_cons_self)⟩⟩, hS.F ht⟩) hS.2.2 dX2_plus_9
abbrev wsX2_plusSeconds : List Cond := ws_ yX2_plusSeconds cX2_plusSeconds 3 (some (.object "Instant"))
set_option maxHeartbeats 4000000 in
set_option maxRecDepth 100000 in
/-- plusSeconds(a) -/
theorem metX2_plusSeconds (l : Launch) (dC : Nat → ClassId) (dI : Nat → Nat → Nat) (ep sz : Nat) (h : Nat) (x : Int64) (y : Int32) (a : Int64) (hx1 : -31000000000000000 ≤ x.toInt) (hx2 : x.toInt ≤ 31000000000000000) (hy1 : 0 ≤ y.toInt) (hy2 : y.toInt < 1000000000) (ha1 : -2147483648 ≤ a.toInt) (ha2 : a.toInt ≤ 2147483648) : Met l yX2_plusSeconds wsX2_plusSeconds ({ frames := 6, cells := 1, slots := 2, locals := 131 }) (va_Pc [.ref h, .long a] (IPre (dC, dI) ep sz [(h, inst x y)])) (va_Qr (fun u : Int64 × Int32 => u.1.toInt = x.toInt + a.toInt + (y.toInt + 0) / 1000000000 ∧ u.2.toInt = (y.toInt + 0) % 1000000000) (IB (dC, dI) ep sz [h]) (va_A [] sz)) 1 2 (va_A [] sz) := by
  refine Met.ofW (cc := cX2_plusSeconds) (maxL := 3) (ret := (some (.object "Instant"))) (by decide) rfl ?_
  intro p e s m args below meth c s₁ B hml hv
  obtain ⟨rfl, hsz, hK, hE, hP⟩ := hv
  have hx := B.exec
  have hb := B.bytes
  have hr := B.returns
  have hts := atoms_spec (ws := wsX2_plusSeconds) B.pre
  have hts : ∀ w ∈ lw_all, w.before _ s = true := fun w h => hts w (List.mem_cons_of_mem _ h)
  have hown : s.vm.findClass RX2 = some m.cls := findClass_of_methodNamed B.named
  have hlocks := B.notSynchronized
  subst hsz
  have hA : ∀ q : Nat, s.heap.size ≤ q → va_A [] s.heap.size q := fun q h => Or.inr h
  have hS : va_S (va_A [] s.heap.size) s.heap s.heap [] := va_S.rf
  have hP : va_P (dC, dI) vwCl [(h, inst x y)] s.heap := hP
  have hl := lv_entry ([.ref h, .long a]) (n := 3) (Nat.le_of_ble_eq_true rfl)
  rw [lg_entry_eq]
  generalize (lg_sl ([.ref h, .long a]) ++ List.replicate (3 - (lg_sl ([.ref h, .long a])).length) Slot.unset).toArray = ls at hl ⊢
  have hl : lv_has ls 3 [(0, .ref h), (1, .long a)] := hl
  refine lv_aload_n hx hb dX2_plusSeconds_0 rfl (lv_at hl 0 rfl) ?_
  refine lv_lload_n hx hb dX2_plusSeconds_1 rfl (lv_at hl 1 rfl) ?_
  refine lv_lconst (v := 0) hx hb dX2_plusSeconds_2 (by decide) ?_
  have hF3 : ∀ q, va_A [] s.heap.size q → va_A [] s.heap.size q := fun _ h => h
  refine va_callr (va_runV (As := [.long a, .long 0]) (rest := []) ⟨hx, hb, hml, hown, hts⟩ (metX2_plus l dC dI ep s.heap.size h x y a 0 hx1 hx2 hy1 hy2 ha1 ha2 (by rw [z0]; decide) (by rw [z0]; decide)) (cwV 2 hts (lw_V q171 q173 qs1 q7 q174) rfl rfl rfl (by decide +kernel) ⟨Nat.le_of_ble_eq_true rfl, Nat.le_of_ble_eq_true rfl⟩) ⟨bl_i, va_recv hK hP (ci := 1) (q0 := 0) rfl rfl, fun U hU hW => ⟨rfl, by rw [hU], va_K.moved hW.alike hK, hE.call hS hF3 hU hW.alike, by rw [hU]; exact hP⟩⟩ rfl rfl hl.1 rfl (lv_room (Nat.le_of_ble_eq_true rfl)) dX2_plusSeconds_3 ⟨Nat.le_of_ble_eq_true rfl, Nat.le_of_ble_eq_true rfl⟩) hS (fun q _ h => hF3 q h) hF3 (fun u3 a3 t3 H3 locs ht hvm hw3 hB3 hz3 hk3 hS => ?_)
  subst ht
  obtain ⟨f1, f2⟩ := u3
  obtain ⟨hw1, hw2⟩ := hw3
  dsimp only at hw1 hw2
  try rw [z0] at hw1
  try rw [z0] at hw2
  exact W.aret (v := .ref a3) hx hb hr (Or.inl ⟨_, rfl⟩) (Or.inr ⟨_, rfl⟩) (fun t ht hW => ⟨⟨(f1, f2), a3, rfl, ⟨(show f1.toInt = x.toInt + a.toInt + (y.toInt + 0) / 1000000000 from by omega), (show f2.toInt = (y.toInt + 0) % 1000000000 from by omega)⟩, ib_to hB3 ht⟩, hS.F ht⟩) hS.2.2 dX2_plusSeconds_6
abbrev wsX2_plusMillis : List Cond := ws_ yX2_plusMillis cX2_plusMillis 3 (some (.object "Instant"))
set_option maxHeartbeats 4000000 in
set_option maxRecDepth 100000 in
/-- plusMillis(a) -/
theorem metX2_plusMillis (l : Launch) (dC : Nat → ClassId) (dI : Nat → Nat → Nat) (ep sz : Nat) (h : Nat) (x : Int64) (y : Int32) (a : Int64) (hx1 : -31000000000000000 ≤ x.toInt) (hx2 : x.toInt ≤ 31000000000000000) (hy1 : 0 ≤ y.toInt) (hy2 : y.toInt < 1000000000) (ha1 : -2147483648 ≤ a.toInt) (ha2 : a.toInt ≤ 2147483648) : Met l yX2_plusMillis wsX2_plusMillis ({ frames := 6, cells := 1, slots := 2, locals := 131 }) (va_Pc [.ref h, .long a] (IPre (dC, dI) ep sz [(h, inst x y)])) (va_Qr (fun u : Int64 × Int32 => u.1.toInt = x.toInt + (y.toInt + a.toInt * 1000000) / 1000000000 ∧ u.2.toInt = (y.toInt + a.toInt * 1000000) % 1000000000) (IB (dC, dI) ep sz [h]) (va_A [] sz)) 1 2 (va_A [] sz) := by
  refine Met.ofW (cc := cX2_plusMillis) (maxL := 3) (ret := (some (.object "Instant"))) (by decide) rfl ?_
  intro p e s m args below meth c s₁ B hml hv
  obtain ⟨rfl, hsz, hK, hE, hP⟩ := hv
  have hx := B.exec
  have hb := B.bytes
  have hr := B.returns
  have hts := atoms_spec (ws := wsX2_plusMillis) B.pre
  have hts : ∀ w ∈ lw_all, w.before _ s = true := fun w h => hts w (List.mem_cons_of_mem _ h)
  have hown : s.vm.findClass RX2 = some m.cls := findClass_of_methodNamed B.named
  have hlocks := B.notSynchronized
  subst hsz
  have hA : ∀ q : Nat, s.heap.size ≤ q → va_A [] s.heap.size q := fun q h => Or.inr h
  have hS : va_S (va_A [] s.heap.size) s.heap s.heap [] := va_S.rf
  have hP : va_P (dC, dI) vwCl [(h, inst x y)] s.heap := hP
  have hl := lv_entry ([.ref h, .long a]) (n := 3) (Nat.le_of_ble_eq_true rfl)
  rw [lg_entry_eq]
  generalize (lg_sl ([.ref h, .long a]) ++ List.replicate (3 - (lg_sl ([.ref h, .long a])).length) Slot.unset).toArray = ls at hl ⊢
  have hl : lv_has ls 3 [(0, .ref h), (1, .long a)] := hl
  refine lv_aload_n hx hb dX2_plusMillis_0 rfl (lv_at hl 0 rfl) ?_
  refine lv_lload_n hx hb dX2_plusMillis_1 rfl (lv_at hl 1 rfl) ?_
  refine lv_ldc2 (v := 1000) hx hb hown (hts _ q184) dX2_plusMillis_2 ?_
  refine lv_ldiv hx hb dX2_plusMillis_5 (by decide) ?_
  refine lv_topl (fun v5 e5 => ?_)
  have g5 := n_div e5 1000 z1000 (by decide)
  refine lv_lload_n hx hb dX2_plusMillis_6 rfl (lv_at hl 1 rfl) ?_
  refine lv_ldc2 (v := 1000) hx hb hown (hts _ q184) dX2_plusMillis_7 ?_
  refine lv_lrem hx hb dX2_plusMillis_10 (by decide) ?_
  refine lv_topl (fun v10 e10 => ?_)
  have g10 := n_rem e10 1000 z1000 (by decide)
  refine lv_ldc2 (v := 1000000) hx hb hown (hts _ q185) dX2_plusMillis_11 ?_
  refine lv_lmul hx hb dX2_plusMillis_14 ?_
  refine lv_topl (fun v14 e14 => ?_)
  have g14 := n_mul e14 (by rw [zM]; omega) (by rw [zM]; omega)
  rw [zM] at g14
  have hF15 : ∀ q, va_A [] s.heap.size q → va_A [] s.heap.size q := fun _ h => h
  refine va_callr (va_runV (As := [.long v5, .long v14]) (rest := []) ⟨hx, hb, hml, hown, hts⟩ (metX2_plus l dC dI ep s.heap.size h x y v5 v14 hx1 hx2 hy1 hy2 (by omega) (by omega) (by omega) (by omega)) (cwV 2 hts (lw_V q171 q173 qs1 q7 q174) rfl rfl rfl (by decide +kernel) ⟨Nat.le_of_ble_eq_true rfl, Nat.le_of_ble_eq_true rfl⟩) ⟨bl_i, va_recv hK hP (ci := 1) (q0 := 0) rfl rfl, fun U hU hW => ⟨rfl, by rw [hU], va_K.moved hW.alike hK, hE.call hS hF15 hU hW.alike, by rw [hU]; exact hP⟩⟩ rfl rfl hl.1 rfl (lv_room (Nat.le_of_ble_eq_true rfl)) dX2_plusMillis_15 ⟨Nat.le_of_ble_eq_true rfl, Nat.le_of_ble_eq_true rfl⟩) hS (fun q _ h => hF15 q h) hF15 (fun u15 a15 t15 H15 locs ht hvm hw15 hB15 hz15 hk15 hS => ?_)
  subst ht
  obtain ⟨f1, f2⟩ := u15
  obtain ⟨hw1, hw2⟩ := hw15
  dsimp only at hw1 hw2
  try rw [z0] at hw1
  try rw [z0] at hw2
  exact W.aret (v := .ref a15) hx hb hr (Or.inl ⟨_, rfl⟩) (Or.inr ⟨_, rfl⟩) (fun t ht hW => ⟨⟨(f1, f2), a15, rfl, ⟨(show f1.toInt = x.toInt + (y.toInt + a.toInt * 1000000) / 1000000000 from by omega), (show f2.toInt = (y.toInt + a.toInt * 1000000) % 1000000000 from by omega)⟩, ib_to hB15 ht⟩, hS.F ht⟩) hS.2.2 dX2_plusMillis_18
abbrev wsX2_plusNanos : List Cond := ws_ yX2_plusNanos cX2_plusNanos 3 (some (.object "Instant"))
set_option maxHeartbeats 4000000 in
set_option maxRecDepth 100000 in
/-- plusNanos(a) -/
theorem metX2_plusNanos (l : Launch) (dC : Nat → ClassId) (dI : Nat → Nat → Nat) (ep sz : Nat) (h : Nat) (x : Int64) (y : Int32) (a : Int64) (hx1 : -31000000000000000 ≤ x.toInt) (hx2 : x.toInt ≤ 31000000000000000) (hy1 : 0 ≤ y.toInt) (hy2 : y.toInt < 1000000000) (ha1 : -2147483648 ≤ a.toInt) (ha2 : a.toInt ≤ 2147483648) : Met l yX2_plusNanos wsX2_plusNanos ({ frames := 6, cells := 1, slots := 2, locals := 131 }) (va_Pc [.ref h, .long a] (IPre (dC, dI) ep sz [(h, inst x y)])) (va_Qr (fun u : Int64 × Int32 => u.1.toInt = x.toInt + (y.toInt + a.toInt) / 1000000000 ∧ u.2.toInt = (y.toInt + a.toInt) % 1000000000) (IB (dC, dI) ep sz [h]) (va_A [] sz)) 1 2 (va_A [] sz) := by
  refine Met.ofW (cc := cX2_plusNanos) (maxL := 3) (ret := (some (.object "Instant"))) (by decide) rfl ?_
  intro p e s m args below meth c s₁ B hml hv
  obtain ⟨rfl, hsz, hK, hE, hP⟩ := hv
  have hx := B.exec
  have hb := B.bytes
  have hr := B.returns
  have hts := atoms_spec (ws := wsX2_plusNanos) B.pre
  have hts : ∀ w ∈ lw_all, w.before _ s = true := fun w h => hts w (List.mem_cons_of_mem _ h)
  have hown : s.vm.findClass RX2 = some m.cls := findClass_of_methodNamed B.named
  have hlocks := B.notSynchronized
  subst hsz
  have hA : ∀ q : Nat, s.heap.size ≤ q → va_A [] s.heap.size q := fun q h => Or.inr h
  have hS : va_S (va_A [] s.heap.size) s.heap s.heap [] := va_S.rf
  have hP : va_P (dC, dI) vwCl [(h, inst x y)] s.heap := hP
  have hl := lv_entry ([.ref h, .long a]) (n := 3) (Nat.le_of_ble_eq_true rfl)
  rw [lg_entry_eq]
  generalize (lg_sl ([.ref h, .long a]) ++ List.replicate (3 - (lg_sl ([.ref h, .long a])).length) Slot.unset).toArray = ls at hl ⊢
  have hl : lv_has ls 3 [(0, .ref h), (1, .long a)] := hl
  refine lv_aload_n hx hb dX2_plusNanos_0 rfl (lv_at hl 0 rfl) ?_
  refine lv_lconst (v := 0) hx hb dX2_plusNanos_1 (by decide) ?_
  refine lv_lload_n hx hb dX2_plusNanos_2 rfl (lv_at hl 1 rfl) ?_
  have hF3 : ∀ q, va_A [] s.heap.size q → va_A [] s.heap.size q := fun _ h => h
  refine va_callr (va_runV (As := [.long 0, .long a]) (rest := []) ⟨hx, hb, hml, hown, hts⟩ (metX2_plus l dC dI ep s.heap.size h x y 0 a hx1 hx2 hy1 hy2 (by rw [z0]; decide) (by rw [z0]; decide) ha1 ha2) (cwV 2 hts (lw_V q171 q173 qs1 q7 q174) rfl rfl rfl (by decide +kernel) ⟨Nat.le_of_ble_eq_true rfl, Nat.le_of_ble_eq_true rfl⟩) ⟨bl_i, va_recv hK hP (ci := 1) (q0 := 0) rfl rfl, fun U hU hW => ⟨rfl, by rw [hU], va_K.moved hW.alike hK, hE.call hS hF3 hU hW.alike, by rw [hU]; exact hP⟩⟩ rfl rfl hl.1 rfl (lv_room (Nat.le_of_ble_eq_true rfl)) dX2_plusNanos_3 ⟨Nat.le_of_ble_eq_true rfl, Nat.le_of_ble_eq_true rfl⟩) hS (fun q _ h => hF3 q h) hF3 (fun u3 a3 t3 H3 locs ht hvm hw3 hB3 hz3 hk3 hS => ?_)
  subst ht
  obtain ⟨f1, f2⟩ := u3
  obtain ⟨hw1, hw2⟩ := hw3
  dsimp only at hw1 hw2
  try rw [z0] at hw1
  try rw [z0] at hw2
  exact W.aret (v := .ref a3) hx hb hr (Or.inl ⟨_, rfl⟩) (Or.inr ⟨_, rfl⟩) (fun t ht hW => ⟨⟨(f1, f2), a3, rfl, ⟨(show f1.toInt = x.toInt + (y.toInt + a.toInt) / 1000000000 from by omega), (show f2.toInt = (y.toInt + a.toInt) % 1000000000 from by omega)⟩, ib_to hB3 ht⟩, hS.F ht⟩) hS.2.2 dX2_plusNanos_6
abbrev wsX2_getEpochSecond : List Cond := ws_ yX2_getEpochSecond cX2_getEpochSecond 1 (some .long)
set_option maxHeartbeats 4000000 in
set_option maxRecDepth 100000 in
/-- the seconds -/
theorem metX2_getEpochSecond (l : Launch) (dC : Nat → ClassId) (dI : Nat → Nat → Nat) (h : Nat) (x : Int64) (y : Int32) : Met l yX2_getEpochSecond wsX2_getEpochSecond ({ frames := 0, cells := 0, slots := 0, locals := 0 }) (va_Pc [.ref h] (fun U => va_K (dC, dI) vwCl [] U ∧ va_P (dC, dI) vwCl [(h, inst x y)] U.heap)) (vp_Sl (fun (r : Int64) => r = x)) 0 0 (fun _ => False) := by
  refine Met.ofW (cc := cX2_getEpochSecond) (maxL := 1) (ret := (some .long)) (by decide) rfl ?_
  intro p e s m args below meth c s₁ B hml hv
  obtain ⟨rfl, hK, hP⟩ := hv
  have hx := B.exec
  have hb := B.bytes
  have hr := B.returns
  have hts := atoms_spec (ws := wsX2_getEpochSecond) B.pre
  have hts : ∀ w ∈ lw_all, w.before _ s = true := fun w h => hts w (List.mem_cons_of_mem _ h)
  have hown : s.vm.findClass RX2 = some m.cls := findClass_of_methodNamed B.named
  have hlocks := B.notSynchronized
  have hl := lv_entry ([.ref h]) (n := 1) (Nat.le_of_ble_eq_true rfl)
  rw [lg_entry_eq]
  generalize (lg_sl ([.ref h]) ++ List.replicate (1 - (lg_sl ([.ref h])).length) Slot.unset).toArray = ls at hl ⊢
  have hl : lv_has ls 1 [(0, .ref h)] := hl
  have hP : va_P (dC, dI) vwCl [(h, inst x y)] s.heap := hP
  refine lv_aload_n hx hb dX2_getEpochSecond_0 rfl (lv_at hl 0 rfl) ?_
  refine va_get (D := (dC, dI)) (ci := 1) (v := .long x) (C := RX2) (T := TX2) (N := 2) hx hb hts in_X2 hown hK hP 0 rfl rfl 0 (by decide) (hts _ q138) (fun _ h9 => h9) rfl dX2_getEpochSecond_1 ?_
  exact W.lret (v := x) hx hb hr (fun t ht hW => ⟨x, rfl, (show x = x from by rfl), ht⟩) (fun q h => by cases h) dX2_getEpochSecond_4
abbrev wsX2_getNano : List Cond := ws_ yX2_getNano cX2_getNano 1 (some .int)
set_option maxHeartbeats 4000000 in
set_option maxRecDepth 100000 in
/-- the nanos -/
theorem metX2_getNano (l : Launch) (dC : Nat → ClassId) (dI : Nat → Nat → Nat) (h : Nat) (x : Int64) (y : Int32) : Met l yX2_getNano wsX2_getNano ({ frames := 0, cells := 0, slots := 0, locals := 0 }) (va_Pc [.ref h] (fun U => va_K (dC, dI) vwCl [] U ∧ va_P (dC, dI) vwCl [(h, inst x y)] U.heap)) (vp_Si (fun (r : Int32) => r = y)) 0 0 (fun _ => False) := by
  refine Met.ofW (cc := cX2_getNano) (maxL := 1) (ret := (some .int)) (by decide) rfl ?_
  intro p e s m args below meth c s₁ B hml hv
  obtain ⟨rfl, hK, hP⟩ := hv
  have hx := B.exec
  have hb := B.bytes
  have hr := B.returns
  have hts := atoms_spec (ws := wsX2_getNano) B.pre
  have hts : ∀ w ∈ lw_all, w.before _ s = true := fun w h => hts w (List.mem_cons_of_mem _ h)
  have hown : s.vm.findClass RX2 = some m.cls := findClass_of_methodNamed B.named
  have hlocks := B.notSynchronized
  have hl := lv_entry ([.ref h]) (n := 1) (Nat.le_of_ble_eq_true rfl)
  rw [lg_entry_eq]
  generalize (lg_sl ([.ref h]) ++ List.replicate (1 - (lg_sl ([.ref h])).length) Slot.unset).toArray = ls at hl ⊢
  have hl : lv_has ls 1 [(0, .ref h)] := hl
  have hP : va_P (dC, dI) vwCl [(h, inst x y)] s.heap := hP
  refine lv_aload_n hx hb dX2_getNano_0 rfl (lv_at hl 0 rfl) ?_
  refine va_get (D := (dC, dI)) (ci := 1) (v := .int y) (C := RX2) (T := TX2) (N := 2) hx hb hts in_X2 hown hK hP 0 rfl rfl 1 (by decide) (hts _ q139) (fun _ h9 => h9) rfl dX2_getNano_1 ?_
  exact W.iret (v := y) hx hb hr (fun t ht hW => ⟨y, rfl, (show y = y from by rfl), ht⟩) (fun q h => by cases h) dX2_getNano_4
abbrev wsX2_toEpochMilli : List Cond := ws_ yX2_toEpochMilli cX2_toEpochMilli 3 (some .long)
set_option maxHeartbeats 4000000 in
set_option maxRecDepth 100000 in
/-- milliseconds -/
theorem metX2_toEpochMilli (l : Launch) (dC : Nat → ClassId) (dI : Nat → Nat → Nat) (h : Nat) (x : Int64) (y : Int32) (hx1 : -9000000000000000 ≤ x.toInt) (hx2 : x.toInt ≤ 9000000000000000) (hy1 : 0 ≤ y.toInt) (hy2 : y.toInt < 1000000000) : Met l yX2_toEpochMilli wsX2_toEpochMilli ({ frames := 1, cells := 0, slots := 0, locals := 25 }) (va_Pc [.ref h] (fun U => va_K (dC, dI) vwCl [] U ∧ va_P (dC, dI) vwCl [(h, inst x y)] U.heap)) (vp_Sl (fun (r : Int64) => r.toInt = x.toInt * 1000 + y.toInt / 1000000)) 0 0 (fun _ => False) := by
  refine Met.ofW (cc := cX2_toEpochMilli) (maxL := 3) (ret := (some .long)) (by decide) rfl ?_
  intro p e s m args below meth c s₁ B hml hv
  obtain ⟨rfl, hK, hP⟩ := hv
  have hx := B.exec
  have hb := B.bytes
  have hr := B.returns
  have hts := atoms_spec (ws := wsX2_toEpochMilli) B.pre
  have hts : ∀ w ∈ lw_all, w.before _ s = true := fun w h => hts w (List.mem_cons_of_mem _ h)
  have hown : s.vm.findClass RX2 = some m.cls := findClass_of_methodNamed B.named
  have hlocks := B.notSynchronized
  have hl := lv_entry ([.ref h]) (n := 3) (Nat.le_of_ble_eq_true rfl)
  rw [lg_entry_eq]
  generalize (lg_sl ([.ref h]) ++ List.replicate (3 - (lg_sl ([.ref h])).length) Slot.unset).toArray = ls at hl ⊢
  have hl : lv_has ls 3 [(0, .ref h)] := hl
  have hP : va_P (dC, dI) vwCl [(h, inst x y)] s.heap := hP
  refine lv_aload_n hx hb dX2_toEpochMilli_0 rfl (lv_at hl 0 rfl) ?_
  refine va_get (D := (dC, dI)) (ci := 1) (v := .long x) (C := RX2) (T := TX2) (N := 2) hx hb hts in_X2 hown hK hP 0 rfl rfl 0 (by decide) (hts _ q138) (fun _ h9 => h9) rfl dX2_toEpochMilli_1 ?_
  refine lv_lconst (v := 0) hx hb dX2_toEpochMilli_4 (by decide) ?_
  refine W.lcmp hx hb dX2_toEpochMilli_5 ?_
  refine lv_if_lt (tgt := 33) hx hb dX2_toEpochMilli_6 (by decide) (fun c6 => ?_) (fun c6 => ?_)
  · have k6 := n_lt.mp c6
    rw [z0] at k6
    refine lv_aload_n hx hb dX2_toEpochMilli_33 rfl (lv_at hl 0 rfl) ?_
    refine va_get (D := (dC, dI)) (ci := 1) (v := .long x) (C := RX2) (T := TX2) (N := 2) hx hb hts in_X2 hown hK hP 0 rfl rfl 0 (by decide) (hts _ q138) (fun _ h9 => h9) rfl dX2_toEpochMilli_34 ?_
    refine lv_lconst (v := 1) hx hb dX2_toEpochMilli_37 (by decide) ?_
    refine lv_ladd hx hb dX2_toEpochMilli_38 ?_
    refine lv_topl (fun v38 e38 => ?_)
    have g38 := n_add e38 (by rw [z1]; omega) (by rw [z1]; omega)
    rw [z1] at g38
    refine lv_ldc2 (v := 1000) hx hb hown (hts _ q184) dX2_toEpochMilli_39 ?_
    refine vp_callSl (W.runS (As := [.long v38, .long 1000]) (rest := []) ⟨hx, hb, hml, hown, hts⟩ (metX3_safeMultiply l v38 1000 z1000 (by omega) (by omega)) (va_cwS 2 hts (lw_S q252 q253 q8 q254) rfl rfl rfl (by decide +kernel) ⟨Nat.le_of_ble_eq_true rfl, Nat.le_of_ble_eq_true rfl⟩) ⟨bl_0, fun U hU hW => ⟨rfl, trivial⟩⟩ rfl rfl hl.1 rfl (lv_room (Nat.le_of_ble_eq_true rfl)) dX2_toEpochMilli_42 ⟨Nat.le_of_ble_eq_true rfl, Nat.le_of_ble_eq_true rfl⟩) (fun r42 hr42 => ?_)
    have hr42 : r42.toInt = v38.toInt * 1000 := hr42
    refine lv_lstore_n (lv' := [(1, .long r42), (0, .ref h)]) hx hb dX2_toEpochMilli_45 rfl hl (by decide) rfl (fun ls hl => ?_)
    refine lv_lload_n hx hb dX2_toEpochMilli_46 rfl (lv_at hl 0 rfl) ?_
    refine lv_ldc2 (v := 1000) hx hb hown (hts _ q184) dX2_toEpochMilli_47 ?_
    refine lv_aload_n hx hb dX2_toEpochMilli_50 rfl (lv_at hl 1 rfl) ?_
    refine va_get (D := (dC, dI)) (ci := 1) (v := .int y) (C := RX2) (T := TX2) (N := 2) hx hb hts in_X2 hown hK hP 0 rfl rfl 1 (by decide) (hts _ q139) (fun _ h9 => h9) rfl dX2_toEpochMilli_51 ?_
    refine lv_ldc (v := 1000000) hx hb hown (hts _ q201) dX2_toEpochMilli_54 ?_
    refine lv_idiv hx hb dX2_toEpochMilli_56 (by decide) ?_
    refine lv_topi (fun v56 e56 => ?_)
    have g56 := n_div32 e56 1000000 iM (by decide)
    refine lv_i2l hx hb dX2_toEpochMilli_57 rfl ?_
    refine lv_topl (fun v57 e57 => ?_)
    have g57 := n_i2l e57
    refine lv_lsub hx hb dX2_toEpochMilli_58 ?_
    refine lv_topl (fun v58 e58 => ?_)
    have g58 := n_sub e58 (by rw [z1000]; omega) (by rw [z1000]; omega)
    rw [z1000] at g58
    refine vp_callSl (W.runS (As := [.long r42, .long v58]) (rest := []) ⟨hx, hb, hml, hown, hts⟩ (metX3_safeSubtract l r42 v58 (by omega) (by omega)) (va_cwS 2 hts (lw_S q257 q258 q8 q259) rfl rfl rfl (by decide +kernel) ⟨Nat.le_of_ble_eq_true rfl, Nat.le_of_ble_eq_true rfl⟩) ⟨bl_0, fun U hU hW => ⟨rfl, trivial⟩⟩ rfl rfl hl.1 rfl (lv_room (Nat.le_of_ble_eq_true rfl)) dX2_toEpochMilli_59 ⟨Nat.le_of_ble_eq_true rfl, Nat.le_of_ble_eq_true rfl⟩) (fun r59 hr59 => ?_)
    have hr59 : r59.toInt = r42.toInt - v58.toInt := hr59
    exact W.lret (v := r59) hx hb hr (fun t ht hW => ⟨r59, rfl, (show r59.toInt = x.toInt * 1000 + y.toInt / 1000000 from by omega), ht⟩) (fun q h => by cases h) dX2_toEpochMilli_62
  · have k6 := mt n_lt.mpr c6
    rw [z0] at k6
    refine lv_aload_n hx hb dX2_toEpochMilli_9 rfl (lv_at hl 0 rfl) ?_
    refine va_get (D := (dC, dI)) (ci := 1) (v := .long x) (C := RX2) (T := TX2) (N := 2) hx hb hts in_X2 hown hK hP 0 rfl rfl 0 (by decide) (hts _ q138) (fun _ h9 => h9) rfl dX2_toEpochMilli_10 ?_
    refine lv_ldc2 (v := 1000) hx hb hown (hts _ q184) dX2_toEpochMilli_13 ?_
    refine vp_callSl (W.runS (As := [.long x, .long 1000]) (rest := []) ⟨hx, hb, hml, hown, hts⟩ (metX3_safeMultiply l x 1000 z1000 (by omega) (by omega)) (va_cwS 2 hts (lw_S q252 q253 q8 q254) rfl rfl rfl (by decide +kernel) ⟨Nat.le_of_ble_eq_true rfl, Nat.le_of_ble_eq_true rfl⟩) ⟨bl_0, fun U hU hW => ⟨rfl, trivial⟩⟩ rfl rfl hl.1 rfl (lv_room (Nat.le_of_ble_eq_true rfl)) dX2_toEpochMilli_16 ⟨Nat.le_of_ble_eq_true rfl, Nat.le_of_ble_eq_true rfl⟩) (fun r16 hr16 => ?_)
    have hr16 : r16.toInt = x.toInt * 1000 := hr16
    refine lv_lstore_n (lv' := [(1, .long r16), (0, .ref h)]) hx hb dX2_toEpochMilli_19 rfl hl (by decide) rfl (fun ls hl => ?_)
    refine lv_lload_n hx hb dX2_toEpochMilli_20 rfl (lv_at hl 0 rfl) ?_
    refine lv_aload_n hx hb dX2_toEpochMilli_21 rfl (lv_at hl 1 rfl) ?_
    refine va_get (D := (dC, dI)) (ci := 1) (v := .int y) (C := RX2) (T := TX2) (N := 2) hx hb hts in_X2 hown hK hP 0 rfl rfl 1 (by decide) (hts _ q139) (fun _ h9 => h9) rfl dX2_toEpochMilli_22 ?_
    refine lv_ldc (v := 1000000) hx hb hown (hts _ q201) dX2_toEpochMilli_25 ?_
    refine lv_idiv hx hb dX2_toEpochMilli_27 (by decide) ?_
    refine lv_topi (fun v27 e27 => ?_)
    have g27 := n_div32 e27 1000000 iM (by decide)
    refine lv_i2l hx hb dX2_toEpochMilli_28 rfl ?_
    refine lv_topl (fun v28 e28 => ?_)
    have g28 := n_i2l e28
    refine vp_callSl (W.runS (As := [.long r16, .long v28]) (rest := []) ⟨hx, hb, hml, hown, hts⟩ (metX3_safeAdd l r16 v28 (by omega) (by omega)) (va_cwS 2 hts (lw_S q32 q33 q8 q34) rfl rfl rfl (by decide +kernel) ⟨Nat.le_of_ble_eq_true rfl, Nat.le_of_ble_eq_true rfl⟩) ⟨bl_0, fun U hU hW => ⟨rfl, trivial⟩⟩ rfl rfl hl.1 rfl (lv_room (Nat.le_of_ble_eq_true rfl)) dX2_toEpochMilli_29 ⟨Nat.le_of_ble_eq_true rfl, Nat.le_of_ble_eq_true rfl⟩) (fun r29 hr29 => ?_)
    have hr29 : r29.toInt = r16.toInt + v28.toInt := hr29
    exact W.lret (v := r29) hx hb hr (fun t ht hW => ⟨r29, rfl, (show r29.toInt = x.toInt * 1000 + y.toInt / 1000000 from by omega), ht⟩) (fun q h => by cases h) dX2_toEpochMilli_32
abbrev wsX2_compareTo : List Cond := ws_ yX2_compareTo cX2_compareTo 3 (some .int)
set_option maxHeartbeats 4000000 in
set_option maxRecDepth 100000 in
/-- the order of two Instants -/
theorem metX2_compareTo (l : Launch) (dC : Nat → ClassId) (dI : Nat → Nat → Nat) (h h2 : Nat) (x x2 : Int64) (y y2 : Int32) (hy1 : 0 ≤ y.toInt) (hy2 : y.toInt < 1000000000) (hz1 : 0 ≤ y2.toInt) (hz2 : y2.toInt < 1000000000) : Met l yX2_compareTo wsX2_compareTo ({ frames := 1, cells := 0, slots := 0, locals := 23 }) (va_Pc [.ref h, .ref h2] (fun U => va_K (dC, dI) vwCl [] U ∧ va_P (dC, dI) vwCl [(h, inst x y), (h2, inst x2 y2)] U.heap)) (vp_Si (fun (r : Int32) => (r.toInt < 0 ↔ (x.toInt < x2.toInt ∨ (x.toInt = x2.toInt ∧ y.toInt < y2.toInt))) ∧ (0 < r.toInt ↔ (x2.toInt < x.toInt ∨ (x.toInt = x2.toInt ∧ y2.toInt < y.toInt))))) 0 0 (fun _ => False) := by
  refine Met.ofW (cc := cX2_compareTo) (maxL := 3) (ret := (some .int)) (by decide) rfl ?_
  intro p e s m args below meth c s₁ B hml hv
  obtain ⟨rfl, hK, hP⟩ := hv
  have hx := B.exec
  have hb := B.bytes
  have hr := B.returns
  have hts := atoms_spec (ws := wsX2_compareTo) B.pre
  have hts : ∀ w ∈ lw_all, w.before _ s = true := fun w h => hts w (List.mem_cons_of_mem _ h)
  have hown : s.vm.findClass RX2 = some m.cls := findClass_of_methodNamed B.named
  have hlocks := B.notSynchronized
  have hl := lv_entry ([.ref h, .ref h2]) (n := 3) (Nat.le_of_ble_eq_true rfl)
  rw [lg_entry_eq]
  generalize (lg_sl ([.ref h, .ref h2]) ++ List.replicate (3 - (lg_sl ([.ref h, .ref h2])).length) Slot.unset).toArray = ls at hl ⊢
  have hl : lv_has ls 3 [(0, .ref h), (1, .ref h2)] := hl
  have hP : va_P (dC, dI) vwCl [(h, inst x y), (h2, inst x2 y2)] s.heap := hP
  refine lv_aload_n hx hb dX2_compareTo_0 rfl (lv_at hl 0 rfl) ?_
  refine va_get (D := (dC, dI)) (ci := 1) (v := .long x) (C := RX2) (T := TX2) (N := 2) hx hb hts in_X2 hown hK hP 0 rfl rfl 0 (by decide) (hts _ q138) (fun _ h9 => h9) rfl dX2_compareTo_1 ?_
  refine lv_aload_n hx hb dX2_compareTo_4 rfl (lv_at hl 1 rfl) ?_
  refine va_get (D := (dC, dI)) (ci := 1) (v := .long x2) (C := RX2) (T := TX2) (N := 2) hx hb hts in_X2 hown hK hP 1 rfl rfl 0 (by decide) (hts _ q138) (fun _ h9 => h9) rfl dX2_compareTo_5 ?_
  refine vp_callSi (W.runS (As := [.long x, .long x2]) (rest := []) ⟨hx, hb, hml, hown, hts⟩ (metX3_compareLongs l x x2) (va_cwS 2 hts (lw_S q226 q227 q8 q228) rfl rfl rfl (by decide +kernel) ⟨Nat.le_of_ble_eq_true rfl, Nat.le_of_ble_eq_true rfl⟩) ⟨bl_0, fun U hU hW => ⟨rfl, trivial⟩⟩ rfl rfl hl.1 rfl (lv_room (Nat.le_of_ble_eq_true rfl)) dX2_compareTo_8 ⟨Nat.le_of_ble_eq_true rfl, Nat.le_of_ble_eq_true rfl⟩) (fun r8 hr8 => ?_)
  have hr8 : (r8.toInt = -1 ∧ x.toInt < x2.toInt) ∨ (r8.toInt = 1 ∧ x2.toInt < x.toInt) ∨ (r8.toInt = 0 ∧ x.toInt = x2.toInt) := hr8
  refine lv_istore_n (lv' := [(2, .int r8), (0, .ref h), (1, .ref h2)]) hx hb dX2_compareTo_11 rfl hl (by decide) rfl (fun ls hl => ?_)
  refine lv_iload_n hx hb dX2_compareTo_12 rfl (lv_at hl 0 rfl) ?_
  refine lv_if_eq (tgt := 18) hx hb dX2_compareTo_13 (by decide) (fun c13 => ?_) (fun c13 => ?_)
  · have k13 := n_eq32.mp c13
    rw [i0] at k13
    refine lv_aload_n hx hb dX2_compareTo_18 rfl (lv_at hl 1 rfl) ?_
    refine va_get (D := (dC, dI)) (ci := 1) (v := .int y) (C := RX2) (T := TX2) (N := 2) hx hb hts in_X2 hown hK hP 0 rfl rfl 1 (by decide) (hts _ q139) (fun _ h9 => h9) rfl dX2_compareTo_19 ?_
    refine lv_aload_n hx hb dX2_compareTo_22 rfl (lv_at hl 2 rfl) ?_
    refine va_get (D := (dC, dI)) (ci := 1) (v := .int y2) (C := RX2) (T := TX2) (N := 2) hx hb hts in_X2 hown hK hP 1 rfl rfl 1 (by decide) (hts _ q139) (fun _ h9 => h9) rfl dX2_compareTo_23 ?_
    refine lv_isub hx hb dX2_compareTo_26 ?_
    refine lv_topi (fun v26 e26 => ?_)
    have g26 := n_sub32 e26 (by omega) (by omega)
    exact W.iret (v := v26) hx hb hr (fun t ht hW => ⟨v26, rfl, (show (v26.toInt < 0 ↔ (x.toInt < x2.toInt ∨ (x.toInt = x2.toInt ∧ y.toInt < y2.toInt))) ∧ (0 < v26.toInt ↔ (x2.toInt < x.toInt ∨ (x.toInt = x2.toInt ∧ y2.toInt < y.toInt))) from by exact ⟨by omega, by omega⟩), ht⟩) (fun q h => by cases h) dX2_compareTo_27
  · have k13 := mt n_eq32.mpr c13
    rw [i0] at k13
    refine lv_iload_n hx hb dX2_compareTo_16 rfl (lv_at hl 0 rfl) ?_
    exact W.iret (v := r8) hx hb hr (fun t ht hW => ⟨r8, rfl, (show (r8.toInt < 0 ↔ (x.toInt < x2.toInt ∨ (x.toInt = x2.toInt ∧ y.toInt < y2.toInt))) ∧ (0 < r8.toInt ↔ (x2.toInt < x.toInt ∨ (x.toInt = x2.toInt ∧ y2.toInt < y.toInt))) from by exact ⟨by omega, by omega⟩), ht⟩) (fun q h => by cases h) dX2_compareTo_17
abbrev wsX2_isAfter : List Cond := ws_ yX2_isAfter cX2_isAfter 2 (some .boolean)
set_option maxHeartbeats 4000000 in
set_option maxRecDepth 100000 in
/-- later -/
theorem metX2_isAfter (l : Launch) (dC : Nat → ClassId) (dI : Nat → Nat → Nat) (h h2 : Nat) (x x2 : Int64) (y y2 : Int32) (hy1 : 0 ≤ y.toInt) (hy2 : y.toInt < 1000000000) (hz1 : 0 ≤ y2.toInt) (hz2 : y2.toInt < 1000000000) : Met l yX2_isAfter wsX2_isAfter ({ frames := 2, cells := 0, slots := 0, locals := 45 }) (va_Pc [.ref h, .ref h2] (fun U => va_K (dC, dI) vwCl [] U ∧ va_P (dC, dI) vwCl [(h, inst x y), (h2, inst x2 y2)] U.heap)) (vp_Si (fun (r : Int32) => (r.toInt = 1 ∧ (x2.toInt < x.toInt ∨ (x.toInt = x2.toInt ∧ y2.toInt < y.toInt))) ∨ (r.toInt = 0 ∧ ¬ (x2.toInt < x.toInt ∨ (x.toInt = x2.toInt ∧ y2.toInt < y.toInt))))) 0 0 (fun _ => False) := by
  refine Met.ofW (cc := cX2_isAfter) (maxL := 2) (ret := (some .boolean)) (by decide) rfl ?_
  intro p e s m args below meth c s₁ B hml hv
  obtain ⟨rfl, hK, hP⟩ := hv
  have hx := B.exec
  have hb := B.bytes
  have hr := B.returns
  have hts := atoms_spec (ws := wsX2_isAfter) B.pre
  have hts : ∀ w ∈ lw_all, w.before _ s = true := fun w h => hts w (List.mem_cons_of_mem _ h)
  have hown : s.vm.findClass RX2 = some m.cls := findClass_of_methodNamed B.named
  have hlocks := B.notSynchronized
  have hl := lv_entry ([.ref h, .ref h2]) (n := 2) (Nat.le_of_ble_eq_true rfl)
  rw [lg_entry_eq]
  generalize (lg_sl ([.ref h, .ref h2]) ++ List.replicate (2 - (lg_sl ([.ref h, .ref h2])).length) Slot.unset).toArray = ls at hl ⊢
  have hl : lv_has ls 2 [(0, .ref h), (1, .ref h2)] := hl
  have hP : va_P (dC, dI) vwCl [(h, inst x y), (h2, inst x2 y2)] s.heap := hP
  refine lv_aload_n hx hb dX2_isAfter_0 rfl (lv_at hl 0 rfl) ?_
  refine lv_aload_n hx hb dX2_isAfter_1 rfl (lv_at hl 1 rfl) ?_
  refine vp_callSi (W.runV (As := [.ref h2]) (rest := []) ⟨hx, hb, hml, hown, hts⟩ (metX2_compareTo l dC dI h h2 x x2 y y2 hy1 hy2 hz1 hz2) (cwV 1 hts (lw_V q222 q223 q224 q7 q225) rfl rfl rfl (by decide +kernel) ⟨Nat.le_of_ble_eq_true rfl, Nat.le_of_ble_eq_true rfl⟩) ⟨bl_rd, va_recv hK hP (ci := 1) (q0 := 0) rfl rfl, fun U hU hW => ⟨rfl, va_K.moved hW.alike hK, by rw [hU]; exact hP⟩⟩ rfl rfl hl.1 rfl (lv_room (Nat.le_of_ble_eq_true rfl)) dX2_isAfter_2 ⟨Nat.le_of_ble_eq_true rfl, Nat.le_of_ble_eq_true rfl⟩) (fun r2 hr2 => ?_)
  obtain ⟨hrl, hrg⟩ := hr2
  refine lv_if_le (tgt := 12) hx hb dX2_isAfter_5 (by decide) (fun c5 => ?_) (fun c5 => ?_)
  · have k5 := n_le32.mp c5
    rw [i0] at k5
    refine lv_iconst (v := 0) hx hb dX2_isAfter_12 (by decide) ?_
    exact W.zret (v := 0) hx hb hr rfl (fun t ht hW => ⟨0, rfl, (show ((0 : Int32).toInt = 1 ∧ (x2.toInt < x.toInt ∨ (x.toInt = x2.toInt ∧ y2.toInt < y.toInt))) ∨ ((0 : Int32).toInt = 0 ∧ ¬ (x2.toInt < x.toInt ∨ (x.toInt = x2.toInt ∧ y2.toInt < y.toInt))) from by first | exact Or.inl ⟨i1, by omega⟩ | exact Or.inr ⟨i0, by omega⟩), ht⟩) (fun q h => by cases h) dX2_isAfter_13
  · have k5 := mt n_le32.mpr c5
    rw [i0] at k5
    refine lv_iconst (v := 1) hx hb dX2_isAfter_8 (by decide) ?_
    refine lv_goto (tgt := 13) hx hb dX2_isAfter_9 (by decide) ?_
    exact W.zret (v := 1) hx hb hr rfl (fun t ht hW => ⟨1, rfl, (show ((1 : Int32).toInt = 1 ∧ (x2.toInt < x.toInt ∨ (x.toInt = x2.toInt ∧ y2.toInt < y.toInt))) ∨ ((1 : Int32).toInt = 0 ∧ ¬ (x2.toInt < x.toInt ∨ (x.toInt = x2.toInt ∧ y2.toInt < y.toInt))) from by first | exact Or.inl ⟨i1, by omega⟩ | exact Or.inr ⟨i0, by omega⟩), ht⟩) (fun q h => by cases h) dX2_isAfter_13
abbrev wsX2_isBefore : List Cond := ws_ yX2_isBefore cX2_isBefore 2 (some .boolean)
set_option maxHeartbeats 4000000 in
set_option maxRecDepth 100000 in
/-- earlier -/
theorem metX2_isBefore (l : Launch) (dC : Nat → ClassId) (dI : Nat → Nat → Nat) (h h2 : Nat) (x x2 : Int64) (y y2 : Int32) (hy1 : 0 ≤ y.toInt) (hy2 : y.toInt < 1000000000) (hz1 : 0 ≤ y2.toInt) (hz2 : y2.toInt < 1000000000) : Met l yX2_isBefore wsX2_isBefore ({ frames := 2, cells := 0, slots := 0, locals := 45 }) (va_Pc [.ref h, .ref h2] (fun U => va_K (dC, dI) vwCl [] U ∧ va_P (dC, dI) vwCl [(h, inst x y), (h2, inst x2 y2)] U.heap)) (vp_Si (fun (r : Int32) => (r.toInt = 1 ∧ (x.toInt < x2.toInt ∨ (x.toInt = x2.toInt ∧ y.toInt < y2.toInt))) ∨ (r.toInt = 0 ∧ ¬ (x.toInt < x2.toInt ∨ (x.toInt = x2.toInt ∧ y.toInt < y2.toInt))))) 0 0 (fun _ => False) := by
  refine Met.ofW (cc := cX2_isBefore) (maxL := 2) (ret := (some .boolean)) (by decide) rfl ?_
  intro p e s m args below meth c s₁ B hml hv
  obtain ⟨rfl, hK, hP⟩ := hv
  have hx := B.exec
  have hb := B.bytes
  have hr := B.returns
  have hts := atoms_spec (ws := wsX2_isBefore) B.pre
  have hts : ∀ w ∈ lw_all, w.before _ s = true := fun w h => hts w (List.mem_cons_of_mem _ h)
  have hown : s.vm.findClass RX2 = some m.cls := findClass_of_methodNamed B.named
  have hlocks := B.notSynchronized
  have hl := lv_entry ([.ref h, .ref h2]) (n := 2) (Nat.le_of_ble_eq_true rfl)
  rw [lg_entry_eq]
  generalize (lg_sl ([.ref h, .ref h2]) ++ List.replicate (2 - (lg_sl ([.ref h, .ref h2])).length) Slot.unset).toArray = ls at hl ⊢
  have hl : lv_has ls 2 [(0, .ref h), (1, .ref h2)] := hl
  have hP : va_P (dC, dI) vwCl [(h, inst x y), (h2, inst x2 y2)] s.heap := hP
  refine lv_aload_n hx hb dX2_isBefore_0 rfl (lv_at hl 0 rfl) ?_
  refine lv_aload_n hx hb dX2_isBefore_1 rfl (lv_at hl 1 rfl) ?_
  refine vp_callSi (W.runV (As := [.ref h2]) (rest := []) ⟨hx, hb, hml, hown, hts⟩ (metX2_compareTo l dC dI h h2 x x2 y y2 hy1 hy2 hz1 hz2) (cwV 1 hts (lw_V q222 q223 q224 q7 q225) rfl rfl rfl (by decide +kernel) ⟨Nat.le_of_ble_eq_true rfl, Nat.le_of_ble_eq_true rfl⟩) ⟨bl_rd, va_recv hK hP (ci := 1) (q0 := 0) rfl rfl, fun U hU hW => ⟨rfl, va_K.moved hW.alike hK, by rw [hU]; exact hP⟩⟩ rfl rfl hl.1 rfl (lv_room (Nat.le_of_ble_eq_true rfl)) dX2_isBefore_2 ⟨Nat.le_of_ble_eq_true rfl, Nat.le_of_ble_eq_true rfl⟩) (fun r2 hr2 => ?_)
  obtain ⟨hrl, hrg⟩ := hr2
  refine lv_if_ge (tgt := 12) hx hb dX2_isBefore_5 (by decide) (fun c5 => ?_) (fun c5 => ?_)
  · have k5 := n_le32.mp c5
    rw [i0] at k5
    refine lv_iconst (v := 0) hx hb dX2_isBefore_12 (by decide) ?_
    exact W.zret (v := 0) hx hb hr rfl (fun t ht hW => ⟨0, rfl, (show ((0 : Int32).toInt = 1 ∧ (x.toInt < x2.toInt ∨ (x.toInt = x2.toInt ∧ y.toInt < y2.toInt))) ∨ ((0 : Int32).toInt = 0 ∧ ¬ (x.toInt < x2.toInt ∨ (x.toInt = x2.toInt ∧ y.toInt < y2.toInt))) from by first | exact Or.inl ⟨i1, by omega⟩ | exact Or.inr ⟨i0, by omega⟩), ht⟩) (fun q h => by cases h) dX2_isBefore_13
  · have k5 := mt n_le32.mpr c5
    rw [i0] at k5
    refine lv_iconst (v := 1) hx hb dX2_isBefore_8 (by decide) ?_
    refine lv_goto (tgt := 13) hx hb dX2_isBefore_9 (by decide) ?_
    exact W.zret (v := 1) hx hb hr rfl (fun t ht hW => ⟨1, rfl, (show ((1 : Int32).toInt = 1 ∧ (x.toInt < x2.toInt ∨ (x.toInt = x2.toInt ∧ y.toInt < y2.toInt))) ∨ ((1 : Int32).toInt = 0 ∧ ¬ (x.toInt < x2.toInt ∨ (x.toInt = x2.toInt ∧ y.toInt < y2.toInt))) from by first | exact Or.inl ⟨i1, by omega⟩ | exact Or.inr ⟨i0, by omega⟩), ht⟩) (fun q h => by cases h) dX2_isBefore_13
end
section
/-! THE MODEL: two arrays of longs behind one object -/
abbrev MW (mo mw mp : Nat) (d1 d2 : ClassId) (w pt : Nat → Int64) : va_W := [(mo, .inr (2, [.ref mw, .ref mp])), (mw, .inl (d1, 2, .inr (.inl w))), (mp, .inl (d2, 2, .inr (.inl pt)))]
abbrev MT (d1 d2 : ClassId) : List (ClassId × FieldType) := [(d1, .long), (d2, .long)]
/-- the point j is now S seconds and N nanos; the other is as it was -/
def PM (w pt : Nat → Int64) (u : (Nat → Int64) × (Nat → Int64)) (j : Nat) (S N : Int) : Prop := (u.1 j).toInt = S ∧ (u.2 j).toInt = N ∧ ∀ i, i < 2 → i ≠ j → u.1 i = w i ∧ u.2 i = pt i
theorem PM.mk {w pt : Nat → Int64} {j : Nat} {S N : Int} {a b : Int64} (h1 : a.toInt = S) (h2 : b.toInt = N) : PM w pt (vp_updL w j a, vp_updL pt j b) j S N := by
  refine ⟨?_, ?_, fun i _ hi => ⟨?_, ?_⟩⟩
  · show (vp_updL w j a j).toInt = S
    rw [pk_uLs, h1]
  · show (vp_updL pt j b j).toInt = N
    rw [pk_uLs, h2]
  · exact pk_uLn hi
  · exact pk_uLn hi
theorem PM.of {w pt : Nat → Int64} {u : (Nat → Int64) × (Nat → Int64)} {j : Nat} {S N S' N' : Int} (h : PM w pt u j S N) (e1 : S = S') (e2 : N = N') : PM w pt u j S' N' := by
  subst e1
  subst e2
  exact h
theorem PM.w {w pt : Nat → Int64} {j : Nat} {S : Int} {a : Int64} (h1 : a.toInt = S) : PM w pt (vp_updL w j a, pt) j S (pt j).toInt := by
  refine ⟨?_, rfl, fun i _ hi => ⟨?_, rfl⟩⟩
  · show (vp_updL w j a j).toInt = S
    rw [pk_uLs, h1]
  · exact pk_uLn hi
abbrev MPre (D : va_G) (mo mw mp : Nat) (d1 d2 : ClassId) (w pt : Nat → Int64) (sz : Nat) (U : State) : Prop := U.heap.size = sz ∧ va_P D vwCl (MW mo mw mp d1 d2 w pt) U.heap ∧ va_K D vwCl (MT d1 d2) U ∧ va_D (fun _ => True) (MW mo mw mp d1 d2 w pt)
theorem bl_m {D : va_G} {mo mw mp : Nat} {d1 d2 : ClassId} {w pt : Nat → Int64} {sz : Nat} {av : List Value} : FrameBlind (va_Pc av (MPre D mo mw mp d1 d2 w pt sz)) := fun a U g mk q => ⟨q.1, q.2.1, q.2.2.1, va_K.moved (u := U) (U := U.calling g mk a) (Vm.Alike.refl U.vm) q.2.2.2.1, q.2.2.2.2⟩
abbrev MB (D : va_G) (mo mw mp : Nat) (d1 d2 : ClassId) (w pt : Nat → Int64) (sz : Nat) (u : (Nat → Int64) × (Nat → Int64)) (t : State) : Prop := va_P D vwCl (MW mo mw mp d1 d2 u.1 u.2) t.heap ∧ va_D (va_A (MW mo mw mp d1 d2 w pt) sz) (MW mo mw mp d1 d2 u.1 u.2)
theorem n_in0 : vp_in 0 2 := by unfold vp_in; decide
theorem n_in1 : vp_in 1 2 := by unfold vp_in; decide
theorem n_cl0 : (0 : Int32).toNatClampNeg = 0 := by decide
theorem n_cl1 : (1 : Int32).toNatClampNeg = 1 := by decide
abbrev wsX5_open : List Cond := ws_ yX5_open cX5_open 2 (some .boolean)
set_option maxHeartbeats 4000000 in
set_option maxRecDepth 100000 in
/-- in the range -/
theorem metX5_open (l : Launch) (dC : Nat → ClassId) (dI : Nat → Nat → Nat) (mo mw mp : Nat) (d1 d2 : ClassId) (w pt : Nat → Int64) (j : Nat) (hj : j < 2) : Met l yX5_open wsX5_open ({ frames := 0, cells := 0, slots := 0, locals := 0 }) (va_Pc [.ref mo, .int (nI j)] (fun U => va_K (dC, dI) vwCl (MT d1 d2) U ∧ va_P (dC, dI) vwCl (MW mo mw mp d1 d2 w pt) U.heap)) (vp_Si (fun (r : Int32) => (r.toInt = 1 ∧ -31000000000000000 ≤ (w j).toInt ∧ (w j).toInt ≤ 31000000000000000) ∨ (r.toInt = 0 ∧ ¬ (-31000000000000000 ≤ (w j).toInt ∧ (w j).toInt ≤ 31000000000000000)))) 0 0 (fun _ => False) := by
  refine Met.ofW (cc := cX5_open) (maxL := 2) (ret := (some .boolean)) (by decide) rfl ?_
  intro p e s m args below meth c s₁ B hml hv
  obtain ⟨rfl, hK, hP⟩ := hv
  have hx := B.exec
  have hb := B.bytes
  have hr := B.returns
  have hts := atoms_spec (ws := wsX5_open) B.pre
  have hts : ∀ w ∈ lw_all, w.before _ s = true := fun w h => hts w (List.mem_cons_of_mem _ h)
  have hown : s.vm.findClass RX5 = some m.cls := findClass_of_methodNamed B.named
  have hlocks := B.notSynchronized
  have hl := lv_entry ([.ref mo, .int (nI j)]) (n := 2) (Nat.le_of_ble_eq_true rfl)
  rw [lg_entry_eq]
  generalize (lg_sl ([.ref mo, .int (nI j)]) ++ List.replicate (2 - (lg_sl ([.ref mo, .int (nI j)])).length) Slot.unset).toArray = ls at hl ⊢
  have hl : lv_has ls 2 [(0, .ref mo), (1, .int (nI j))] := hl
  have hP : va_P (dC, dI) vwCl (MW mo mw mp d1 d2 w pt) s.heap := hP
  refine lv_aload_n hx hb dX5_open_0 rfl (lv_at hl 0 rfl) ?_
  refine va_get (D := (dC, dI)) (ci := 2) (v := .ref mw) (C := RX5) (T := TX5) (N := 2) hx hb hts in_X5 hown hK hP 0 rfl rfl 0 (by decide) (hts _ q266) (fun _ h9 => h9) rfl dX5_open_1 ?_
  refine lv_iload_n hx hb dX5_open_4 rfl (lv_at hl 1 rfl) ?_
  refine va_lald hx hb hK hP 1 0 rfl rfl (n_in hj) dX5_open_5 ?_
  refine lv_topl (fun v5 e5 => ?_)
  rw [n_cl hj] at e5
  have g5 := congrArg Int64.toInt e5
  refine lv_ldc2 (v := (-31000000000000000)) hx hb hown (hts _ q302) dX5_open_6 ?_
  refine W.lcmp hx hb dX5_open_9 ?_
  refine lv_if_lt (tgt := 30) hx hb dX5_open_10 (by decide) (fun c10 => ?_) (fun c10 => ?_)
  · have k10 := n_lt.mp c10
    rw [zEn] at k10
    refine lv_iconst (v := 0) hx hb dX5_open_30 (by decide) ?_
    exact W.zret (v := 0) hx hb hr rfl (fun t ht hW => ⟨0, rfl, (show ((0 : Int32).toInt = 1 ∧ -31000000000000000 ≤ (w j).toInt ∧ (w j).toInt ≤ 31000000000000000) ∨ ((0 : Int32).toInt = 0 ∧ ¬ (-31000000000000000 ≤ (w j).toInt ∧ (w j).toInt ≤ 31000000000000000)) from by first | exact Or.inl ⟨i1, by omega⟩ | exact Or.inr ⟨i0, by omega⟩), ht⟩) (fun q h => by cases h) dX5_open_31
  · have k10 := mt n_lt.mpr c10
    rw [zEn] at k10
    refine lv_aload_n hx hb dX5_open_13 rfl (lv_at hl 0 rfl) ?_
    refine va_get (D := (dC, dI)) (ci := 2) (v := .ref mw) (C := RX5) (T := TX5) (N := 2) hx hb hts in_X5 hown hK hP 0 rfl rfl 0 (by decide) (hts _ q266) (fun _ h9 => h9) rfl dX5_open_14 ?_
    refine lv_iload_n hx hb dX5_open_17 rfl (lv_at hl 1 rfl) ?_
    refine va_lald hx hb hK hP 1 0 rfl rfl (n_in hj) dX5_open_18 ?_
    refine lv_topl (fun v18 e18 => ?_)
    rw [n_cl hj] at e18
    have g18 := congrArg Int64.toInt e18
    refine lv_ldc2 (v := 31000000000000000) hx hb hown (hts _ q285) dX5_open_19 ?_
    refine W.lcmp hx hb dX5_open_22 ?_
    refine lv_if_gt (tgt := 30) hx hb dX5_open_23 (by decide) (fun c23 => ?_) (fun c23 => ?_)
    · have k23 := n_gt.mp c23
      rw [zE] at k23
      refine lv_iconst (v := 0) hx hb dX5_open_30 (by decide) ?_
      exact W.zret (v := 0) hx hb hr rfl (fun t ht hW => ⟨0, rfl, (show ((0 : Int32).toInt = 1 ∧ -31000000000000000 ≤ (w j).toInt ∧ (w j).toInt ≤ 31000000000000000) ∨ ((0 : Int32).toInt = 0 ∧ ¬ (-31000000000000000 ≤ (w j).toInt ∧ (w j).toInt ≤ 31000000000000000)) from by first | exact Or.inl ⟨i1, by omega⟩ | exact Or.inr ⟨i0, by omega⟩), ht⟩) (fun q h => by cases h) dX5_open_31
    · have k23 := mt n_gt.mpr c23
      rw [zE] at k23
      refine lv_iconst (v := 1) hx hb dX5_open_26 (by decide) ?_
      refine lv_goto (tgt := 31) hx hb dX5_open_27 (by decide) ?_
      exact W.zret (v := 1) hx hb hr rfl (fun t ht hW => ⟨1, rfl, (show ((1 : Int32).toInt = 1 ∧ -31000000000000000 ≤ (w j).toInt ∧ (w j).toInt ≤ 31000000000000000) ∨ ((1 : Int32).toInt = 0 ∧ ¬ (-31000000000000000 ≤ (w j).toInt ∧ (w j).toInt ≤ 31000000000000000)) from by first | exact Or.inl ⟨i1, by omega⟩ | exact Or.inr ⟨i0, by omega⟩), ht⟩) (fun q h => by cases h) dX5_open_31
abbrev wsX5_order : List Cond := ws_ yX5_order cX5_order 1 (some .int)
set_option maxHeartbeats 4000000 in
set_option maxRecDepth 100000 in
/-- the order of the two points -/
theorem metX5_order (l : Launch) (dC : Nat → ClassId) (dI : Nat → Nat → Nat) (mo mw mp : Nat) (d1 d2 : ClassId) (w pt : Nat → Int64) : Met l yX5_order wsX5_order ({ frames := 0, cells := 0, slots := 0, locals := 0 }) (va_Pc [.ref mo] (fun U => va_K (dC, dI) vwCl (MT d1 d2) U ∧ va_P (dC, dI) vwCl (MW mo mw mp d1 d2 w pt) U.heap)) (vp_Si (fun (r : Int32) => (r.toInt = -1 ∧ ((w 0).toInt < (w 1).toInt ∨ ((w 0).toInt = (w 1).toInt ∧ (pt 0).toInt < (pt 1).toInt))) ∨ (r.toInt = 1 ∧ ((w 1).toInt < (w 0).toInt ∨ ((w 0).toInt = (w 1).toInt ∧ (pt 1).toInt < (pt 0).toInt))) ∨ (r.toInt = 0 ∧ ((w 0).toInt = (w 1).toInt ∧ (pt 0).toInt = (pt 1).toInt)))) 0 0 (fun _ => False) := by
  refine Met.ofW (cc := cX5_order) (maxL := 1) (ret := (some .int)) (by decide) rfl ?_
  intro p e s m args below meth c s₁ B hml hv
  obtain ⟨rfl, hK, hP⟩ := hv
  have hx := B.exec
  have hb := B.bytes
  have hr := B.returns
  have hts := atoms_spec (ws := wsX5_order) B.pre
  have hts : ∀ w ∈ lw_all, w.before _ s = true := fun w h => hts w (List.mem_cons_of_mem _ h)
  have hown : s.vm.findClass RX5 = some m.cls := findClass_of_methodNamed B.named
  have hlocks := B.notSynchronized
  have hl := lv_entry ([.ref mo]) (n := 1) (Nat.le_of_ble_eq_true rfl)
  rw [lg_entry_eq]
  generalize (lg_sl ([.ref mo]) ++ List.replicate (1 - (lg_sl ([.ref mo])).length) Slot.unset).toArray = ls at hl ⊢
  have hl : lv_has ls 1 [(0, .ref mo)] := hl
  have hP : va_P (dC, dI) vwCl (MW mo mw mp d1 d2 w pt) s.heap := hP
  refine lv_aload_n hx hb dX5_order_0 rfl (lv_at hl 0 rfl) ?_
  refine va_get (D := (dC, dI)) (ci := 2) (v := .ref mw) (C := RX5) (T := TX5) (N := 2) hx hb hts in_X5 hown hK hP 0 rfl rfl 0 (by decide) (hts _ q266) (fun _ h9 => h9) rfl dX5_order_1 ?_
  refine lv_iconst (v := 0) hx hb dX5_order_4 (by decide) ?_
  refine va_lald hx hb hK hP 1 0 rfl rfl n_in0 dX5_order_5 ?_
  refine lv_topl (fun v5 e5 => ?_)
  rw [n_cl0] at e5
  have g5 := congrArg Int64.toInt e5
  refine lv_aload_n hx hb dX5_order_6 rfl (lv_at hl 0 rfl) ?_
  refine va_get (D := (dC, dI)) (ci := 2) (v := .ref mw) (C := RX5) (T := TX5) (N := 2) hx hb hts in_X5 hown hK hP 0 rfl rfl 0 (by decide) (hts _ q266) (fun _ h9 => h9) rfl dX5_order_7 ?_
  refine lv_iconst (v := 1) hx hb dX5_order_10 (by decide) ?_
  refine va_lald hx hb hK hP 1 0 rfl rfl n_in1 dX5_order_11 ?_
  refine lv_topl (fun v11 e11 => ?_)
  rw [n_cl1] at e11
  have g11 := congrArg Int64.toInt e11
  refine W.lcmp hx hb dX5_order_12 ?_
  refine lv_if_eq (tgt := 38) hx hb dX5_order_13 (by decide) (fun c13 => ?_) (fun c13 => ?_)
  · have k13 := n_eq.mp c13
    refine lv_aload_n hx hb dX5_order_38 rfl (lv_at hl 0 rfl) ?_
    refine va_get (D := (dC, dI)) (ci := 2) (v := .ref mp) (C := RX5) (T := TX5) (N := 2) hx hb hts in_X5 hown hK hP 0 rfl rfl 1 (by decide) (hts _ q267) (fun _ h9 => h9) rfl dX5_order_39 ?_
    refine lv_iconst (v := 0) hx hb dX5_order_42 (by decide) ?_
    refine va_lald hx hb hK hP 2 1 rfl rfl n_in0 dX5_order_43 ?_
    refine lv_topl (fun v43 e43 => ?_)
    rw [n_cl0] at e43
    have g43 := congrArg Int64.toInt e43
    refine lv_aload_n hx hb dX5_order_44 rfl (lv_at hl 0 rfl) ?_
    refine va_get (D := (dC, dI)) (ci := 2) (v := .ref mp) (C := RX5) (T := TX5) (N := 2) hx hb hts in_X5 hown hK hP 0 rfl rfl 1 (by decide) (hts _ q267) (fun _ h9 => h9) rfl dX5_order_45 ?_
    refine lv_iconst (v := 1) hx hb dX5_order_48 (by decide) ?_
    refine va_lald hx hb hK hP 2 1 rfl rfl n_in1 dX5_order_49 ?_
    refine lv_topl (fun v49 e49 => ?_)
    rw [n_cl1] at e49
    have g49 := congrArg Int64.toInt e49
    refine W.lcmp hx hb dX5_order_50 ?_
    refine lv_if_eq (tgt := 76) hx hb dX5_order_51 (by decide) (fun c51 => ?_) (fun c51 => ?_)
    · have k51 := n_eq.mp c51
      refine lv_iconst (v := 0) hx hb dX5_order_76 (by decide) ?_
      exact W.iret (v := 0) hx hb hr (fun t ht hW => ⟨0, rfl, (show ((0 : Int32).toInt = -1 ∧ ((w 0).toInt < (w 1).toInt ∨ ((w 0).toInt = (w 1).toInt ∧ (pt 0).toInt < (pt 1).toInt))) ∨ ((0 : Int32).toInt = 1 ∧ ((w 1).toInt < (w 0).toInt ∨ ((w 0).toInt = (w 1).toInt ∧ (pt 1).toInt < (pt 0).toInt))) ∨ ((0 : Int32).toInt = 0 ∧ ((w 0).toInt = (w 1).toInt ∧ (pt 0).toInt = (pt 1).toInt)) from by first | exact Or.inl ⟨in1, by omega⟩ | exact Or.inr (Or.inl ⟨i1, by omega⟩) | exact Or.inr (Or.inr ⟨i0, by omega⟩)), ht⟩) (fun q h => by cases h) dX5_order_77
    · have k51 := mt n_eq.mpr c51
      refine lv_aload_n hx hb dX5_order_54 rfl (lv_at hl 0 rfl) ?_
      refine va_get (D := (dC, dI)) (ci := 2) (v := .ref mp) (C := RX5) (T := TX5) (N := 2) hx hb hts in_X5 hown hK hP 0 rfl rfl 1 (by decide) (hts _ q267) (fun _ h9 => h9) rfl dX5_order_55 ?_
      refine lv_iconst (v := 0) hx hb dX5_order_58 (by decide) ?_
      refine va_lald hx hb hK hP 2 1 rfl rfl n_in0 dX5_order_59 ?_
      refine lv_topl (fun v59 e59 => ?_)
      rw [n_cl0] at e59
      have g59 := congrArg Int64.toInt e59
      refine lv_aload_n hx hb dX5_order_60 rfl (lv_at hl 0 rfl) ?_
      refine va_get (D := (dC, dI)) (ci := 2) (v := .ref mp) (C := RX5) (T := TX5) (N := 2) hx hb hts in_X5 hown hK hP 0 rfl rfl 1 (by decide) (hts _ q267) (fun _ h9 => h9) rfl dX5_order_61 ?_
      refine lv_iconst (v := 1) hx hb dX5_order_64 (by decide) ?_
      refine va_lald hx hb hK hP 2 1 rfl rfl n_in1 dX5_order_65 ?_
      refine lv_topl (fun v65 e65 => ?_)
      rw [n_cl1] at e65
      have g65 := congrArg Int64.toInt e65
      refine W.lcmp hx hb dX5_order_66 ?_
      refine lv_if_ge (tgt := 74) hx hb dX5_order_67 (by decide) (fun c67 => ?_) (fun c67 => ?_)
      · have k67 := n_ge.mp c67
        refine lv_iconst (v := 1) hx hb dX5_order_74 (by decide) ?_
        exact W.iret (v := 1) hx hb hr (fun t ht hW => ⟨1, rfl, (show ((1 : Int32).toInt = -1 ∧ ((w 0).toInt < (w 1).toInt ∨ ((w 0).toInt = (w 1).toInt ∧ (pt 0).toInt < (pt 1).toInt))) ∨ ((1 : Int32).toInt = 1 ∧ ((w 1).toInt < (w 0).toInt ∨ ((w 0).toInt = (w 1).toInt ∧ (pt 1).toInt < (pt 0).toInt))) ∨ ((1 : Int32).toInt = 0 ∧ ((w 0).toInt = (w 1).toInt ∧ (pt 0).toInt = (pt 1).toInt)) from by first | exact Or.inl ⟨in1, by omega⟩ | exact Or.inr (Or.inl ⟨i1, by omega⟩) | exact Or.inr (Or.inr ⟨i0, by omega⟩)), ht⟩) (fun q h => by cases h) dX5_order_75
      · have k67 := mt n_ge.mpr c67
        refine lv_iconst (v := -1) hx hb dX5_order_70 (by decide) ?_
        refine lv_goto (tgt := 75) hx hb dX5_order_71 (by decide) ?_
        exact W.iret (v := (-1)) hx hb hr (fun t ht hW => ⟨(-1), rfl, (show (((-1) : Int32).toInt = -1 ∧ ((w 0).toInt < (w 1).toInt ∨ ((w 0).toInt = (w 1).toInt ∧ (pt 0).toInt < (pt 1).toInt))) ∨ (((-1) : Int32).toInt = 1 ∧ ((w 1).toInt < (w 0).toInt ∨ ((w 0).toInt = (w 1).toInt ∧ (pt 1).toInt < (pt 0).toInt))) ∨ (((-1) : Int32).toInt = 0 ∧ ((w 0).toInt = (w 1).toInt ∧ (pt 0).toInt = (pt 1).toInt)) from by first | exact Or.inl ⟨in1, by omega⟩ | exact Or.inr (Or.inl ⟨i1, by omega⟩) | exact Or.inr (Or.inr ⟨i0, by omega⟩)), ht⟩) (fun q h => by cases h) dX5_order_75
  · have k13 := mt n_eq.mpr c13
    refine lv_aload_n hx hb dX5_order_16 rfl (lv_at hl 0 rfl) ?_
    refine va_get (D := (dC, dI)) (ci := 2) (v := .ref mw) (C := RX5) (T := TX5) (N := 2) hx hb hts in_X5 hown hK hP 0 rfl rfl 0 (by decide) (hts _ q266) (fun _ h9 => h9) rfl dX5_order_17 ?_
    refine lv_iconst (v := 0) hx hb dX5_order_20 (by decide) ?_
    refine va_lald hx hb hK hP 1 0 rfl rfl n_in0 dX5_order_21 ?_
    refine lv_topl (fun v21 e21 => ?_)
    rw [n_cl0] at e21
    have g21 := congrArg Int64.toInt e21
    refine lv_aload_n hx hb dX5_order_22 rfl (lv_at hl 0 rfl) ?_
    refine va_get (D := (dC, dI)) (ci := 2) (v := .ref mw) (C := RX5) (T := TX5) (N := 2) hx hb hts in_X5 hown hK hP 0 rfl rfl 0 (by decide) (hts _ q266) (fun _ h9 => h9) rfl dX5_order_23 ?_
    refine lv_iconst (v := 1) hx hb dX5_order_26 (by decide) ?_
    refine va_lald hx hb hK hP 1 0 rfl rfl n_in1 dX5_order_27 ?_
    refine lv_topl (fun v27 e27 => ?_)
    rw [n_cl1] at e27
    have g27 := congrArg Int64.toInt e27
    refine W.lcmp hx hb dX5_order_28 ?_
    refine lv_if_ge (tgt := 36) hx hb dX5_order_29 (by decide) (fun c29 => ?_) (fun c29 => ?_)
    · have k29 := n_ge.mp c29
      refine lv_iconst (v := 1) hx hb dX5_order_36 (by decide) ?_
      exact W.iret (v := 1) hx hb hr (fun t ht hW => ⟨1, rfl, (show ((1 : Int32).toInt = -1 ∧ ((w 0).toInt < (w 1).toInt ∨ ((w 0).toInt = (w 1).toInt ∧ (pt 0).toInt < (pt 1).toInt))) ∨ ((1 : Int32).toInt = 1 ∧ ((w 1).toInt < (w 0).toInt ∨ ((w 0).toInt = (w 1).toInt ∧ (pt 1).toInt < (pt 0).toInt))) ∨ ((1 : Int32).toInt = 0 ∧ ((w 0).toInt = (w 1).toInt ∧ (pt 0).toInt = (pt 1).toInt)) from by first | exact Or.inl ⟨in1, by omega⟩ | exact Or.inr (Or.inl ⟨i1, by omega⟩) | exact Or.inr (Or.inr ⟨i0, by omega⟩)), ht⟩) (fun q h => by cases h) dX5_order_37
    · have k29 := mt n_ge.mpr c29
      refine lv_iconst (v := -1) hx hb dX5_order_32 (by decide) ?_
      refine lv_goto (tgt := 37) hx hb dX5_order_33 (by decide) ?_
      exact W.iret (v := (-1)) hx hb hr (fun t ht hW => ⟨(-1), rfl, (show (((-1) : Int32).toInt = -1 ∧ ((w 0).toInt < (w 1).toInt ∨ ((w 0).toInt = (w 1).toInt ∧ (pt 0).toInt < (pt 1).toInt))) ∨ (((-1) : Int32).toInt = 1 ∧ ((w 1).toInt < (w 0).toInt ∨ ((w 0).toInt = (w 1).toInt ∧ (pt 1).toInt < (pt 0).toInt))) ∨ (((-1) : Int32).toInt = 0 ∧ ((w 0).toInt = (w 1).toInt ∧ (pt 0).toInt = (pt 1).toInt)) from by first | exact Or.inl ⟨in1, by omega⟩ | exact Or.inr (Or.inl ⟨i1, by omega⟩) | exact Or.inr (Or.inr ⟨i0, by omega⟩)), ht⟩) (fun q h => by cases h) dX5_order_37
abbrev wsX5_before : List Cond := ws_ yX5_before cX5_before 1 (some .boolean)
set_option maxHeartbeats 4000000 in
set_option maxRecDepth 100000 in
/-- earlier -/
theorem metX5_before (l : Launch) (dC : Nat → ClassId) (dI : Nat → Nat → Nat) (mo mw mp : Nat) (d1 d2 : ClassId) (w pt : Nat → Int64) : Met l yX5_before wsX5_before ({ frames := 1, cells := 0, slots := 0, locals := 20 }) (va_Pc [.ref mo] (fun U => va_K (dC, dI) vwCl (MT d1 d2) U ∧ va_P (dC, dI) vwCl (MW mo mw mp d1 d2 w pt) U.heap)) (vp_Si (fun (r : Int32) => (r.toInt = 1 ∧ ((w 0).toInt < (w 1).toInt ∨ ((w 0).toInt = (w 1).toInt ∧ (pt 0).toInt < (pt 1).toInt))) ∨ (r.toInt = 0 ∧ ¬ ((w 0).toInt < (w 1).toInt ∨ ((w 0).toInt = (w 1).toInt ∧ (pt 0).toInt < (pt 1).toInt))))) 0 0 (fun _ => False) := by
  refine Met.ofW (cc := cX5_before) (maxL := 1) (ret := (some .boolean)) (by decide) rfl ?_
  intro p e s m args below meth c s₁ B hml hv
  obtain ⟨rfl, hK, hP⟩ := hv
  have hx := B.exec
  have hb := B.bytes
  have hr := B.returns
  have hts := atoms_spec (ws := wsX5_before) B.pre
  have hts : ∀ w ∈ lw_all, w.before _ s = true := fun w h => hts w (List.mem_cons_of_mem _ h)
  have hown : s.vm.findClass RX5 = some m.cls := findClass_of_methodNamed B.named
  have hlocks := B.notSynchronized
  have hl := lv_entry ([.ref mo]) (n := 1) (Nat.le_of_ble_eq_true rfl)
  rw [lg_entry_eq]
  generalize (lg_sl ([.ref mo]) ++ List.replicate (1 - (lg_sl ([.ref mo])).length) Slot.unset).toArray = ls at hl ⊢
  have hl : lv_has ls 1 [(0, .ref mo)] := hl
  have hP : va_P (dC, dI) vwCl (MW mo mw mp d1 d2 w pt) s.heap := hP
  refine lv_aload_n hx hb dX5_before_0 rfl (lv_at hl 0 rfl) ?_
  refine vp_callSi (W.runV (As := []) (rest := []) ⟨hx, hb, hml, hown, hts⟩ (metX5_order l dC dI mo mw mp d1 d2 w pt) (cwV 0 hts (lw_V q329 q330 q331 q14 q332) rfl rfl rfl (by decide +kernel) ⟨Nat.le_of_ble_eq_true rfl, Nat.le_of_ble_eq_true rfl⟩) ⟨bl_rd, va_recv hK hP (ci := 2) (q0 := 0) rfl rfl, fun U hU hW => ⟨rfl, va_K.moved hW.alike hK, by rw [hU]; exact hP⟩⟩ rfl rfl hl.1 rfl (lv_room (Nat.le_of_ble_eq_true rfl)) dX5_before_1 ⟨Nat.le_of_ble_eq_true rfl, Nat.le_of_ble_eq_true rfl⟩) (fun r1 hr1 => ?_)
  have hr1 : (r1.toInt = -1 ∧ ((w 0).toInt < (w 1).toInt ∨ ((w 0).toInt = (w 1).toInt ∧ (pt 0).toInt < (pt 1).toInt))) ∨ (r1.toInt = 1 ∧ ((w 1).toInt < (w 0).toInt ∨ ((w 0).toInt = (w 1).toInt ∧ (pt 1).toInt < (pt 0).toInt))) ∨ (r1.toInt = 0 ∧ ((w 0).toInt = (w 1).toInt ∧ (pt 0).toInt = (pt 1).toInt)) := hr1
  refine lv_if_ge (tgt := 11) hx hb dX5_before_4 (by decide) (fun c4 => ?_) (fun c4 => ?_)
  · have k4 := n_le32.mp c4
    rw [i0] at k4
    refine lv_iconst (v := 0) hx hb dX5_before_11 (by decide) ?_
    exact W.zret (v := 0) hx hb hr rfl (fun t ht hW => ⟨0, rfl, (show ((0 : Int32).toInt = 1 ∧ ((w 0).toInt < (w 1).toInt ∨ ((w 0).toInt = (w 1).toInt ∧ (pt 0).toInt < (pt 1).toInt))) ∨ ((0 : Int32).toInt = 0 ∧ ¬ ((w 0).toInt < (w 1).toInt ∨ ((w 0).toInt = (w 1).toInt ∧ (pt 0).toInt < (pt 1).toInt))) from by first | exact Or.inl ⟨i1, by omega⟩ | exact Or.inr ⟨i0, by omega⟩), ht⟩) (fun q h => by cases h) dX5_before_12
  · have k4 := mt n_le32.mpr c4
    rw [i0] at k4
    refine lv_iconst (v := 1) hx hb dX5_before_7 (by decide) ?_
    refine lv_goto (tgt := 12) hx hb dX5_before_8 (by decide) ?_
    exact W.zret (v := 1) hx hb hr rfl (fun t ht hW => ⟨1, rfl, (show ((1 : Int32).toInt = 1 ∧ ((w 0).toInt < (w 1).toInt ∨ ((w 0).toInt = (w 1).toInt ∧ (pt 0).toInt < (pt 1).toInt))) ∨ ((1 : Int32).toInt = 0 ∧ ¬ ((w 0).toInt < (w 1).toInt ∨ ((w 0).toInt = (w 1).toInt ∧ (pt 0).toInt < (pt 1).toInt))) from by first | exact Or.inl ⟨i1, by omega⟩ | exact Or.inr ⟨i0, by omega⟩), ht⟩) (fun q h => by cases h) dX5_before_12
abbrev wsX5_after : List Cond := ws_ yX5_after cX5_after 1 (some .boolean)
set_option maxHeartbeats 4000000 in
set_option maxRecDepth 100000 in
/-- later -/
theorem metX5_after (l : Launch) (dC : Nat → ClassId) (dI : Nat → Nat → Nat) (mo mw mp : Nat) (d1 d2 : ClassId) (w pt : Nat → Int64) : Met l yX5_after wsX5_after ({ frames := 1, cells := 0, slots := 0, locals := 20 }) (va_Pc [.ref mo] (fun U => va_K (dC, dI) vwCl (MT d1 d2) U ∧ va_P (dC, dI) vwCl (MW mo mw mp d1 d2 w pt) U.heap)) (vp_Si (fun (r : Int32) => (r.toInt = 1 ∧ ((w 1).toInt < (w 0).toInt ∨ ((w 0).toInt = (w 1).toInt ∧ (pt 1).toInt < (pt 0).toInt))) ∨ (r.toInt = 0 ∧ ¬ ((w 1).toInt < (w 0).toInt ∨ ((w 0).toInt = (w 1).toInt ∧ (pt 1).toInt < (pt 0).toInt))))) 0 0 (fun _ => False) := by
  refine Met.ofW (cc := cX5_after) (maxL := 1) (ret := (some .boolean)) (by decide) rfl ?_
  intro p e s m args below meth c s₁ B hml hv
  obtain ⟨rfl, hK, hP⟩ := hv
  have hx := B.exec
  have hb := B.bytes
  have hr := B.returns
  have hts := atoms_spec (ws := wsX5_after) B.pre
  have hts : ∀ w ∈ lw_all, w.before _ s = true := fun w h => hts w (List.mem_cons_of_mem _ h)
  have hown : s.vm.findClass RX5 = some m.cls := findClass_of_methodNamed B.named
  have hlocks := B.notSynchronized
  have hl := lv_entry ([.ref mo]) (n := 1) (Nat.le_of_ble_eq_true rfl)
  rw [lg_entry_eq]
  generalize (lg_sl ([.ref mo]) ++ List.replicate (1 - (lg_sl ([.ref mo])).length) Slot.unset).toArray = ls at hl ⊢
  have hl : lv_has ls 1 [(0, .ref mo)] := hl
  have hP : va_P (dC, dI) vwCl (MW mo mw mp d1 d2 w pt) s.heap := hP
  refine lv_aload_n hx hb dX5_after_0 rfl (lv_at hl 0 rfl) ?_
  refine vp_callSi (W.runV (As := []) (rest := []) ⟨hx, hb, hml, hown, hts⟩ (metX5_order l dC dI mo mw mp d1 d2 w pt) (cwV 0 hts (lw_V q329 q330 q331 q14 q332) rfl rfl rfl (by decide +kernel) ⟨Nat.le_of_ble_eq_true rfl, Nat.le_of_ble_eq_true rfl⟩) ⟨bl_rd, va_recv hK hP (ci := 2) (q0 := 0) rfl rfl, fun U hU hW => ⟨rfl, va_K.moved hW.alike hK, by rw [hU]; exact hP⟩⟩ rfl rfl hl.1 rfl (lv_room (Nat.le_of_ble_eq_true rfl)) dX5_after_1 ⟨Nat.le_of_ble_eq_true rfl, Nat.le_of_ble_eq_true rfl⟩) (fun r1 hr1 => ?_)
  have hr1 : (r1.toInt = -1 ∧ ((w 0).toInt < (w 1).toInt ∨ ((w 0).toInt = (w 1).toInt ∧ (pt 0).toInt < (pt 1).toInt))) ∨ (r1.toInt = 1 ∧ ((w 1).toInt < (w 0).toInt ∨ ((w 0).toInt = (w 1).toInt ∧ (pt 1).toInt < (pt 0).toInt))) ∨ (r1.toInt = 0 ∧ ((w 0).toInt = (w 1).toInt ∧ (pt 0).toInt = (pt 1).toInt)) := hr1
  refine lv_if_le (tgt := 11) hx hb dX5_after_4 (by decide) (fun c4 => ?_) (fun c4 => ?_)
  · have k4 := n_le32.mp c4
    rw [i0] at k4
    refine lv_iconst (v := 0) hx hb dX5_after_11 (by decide) ?_
    exact W.zret (v := 0) hx hb hr rfl (fun t ht hW => ⟨0, rfl, (show ((0 : Int32).toInt = 1 ∧ ((w 1).toInt < (w 0).toInt ∨ ((w 0).toInt = (w 1).toInt ∧ (pt 1).toInt < (pt 0).toInt))) ∨ ((0 : Int32).toInt = 0 ∧ ¬ ((w 1).toInt < (w 0).toInt ∨ ((w 0).toInt = (w 1).toInt ∧ (pt 1).toInt < (pt 0).toInt))) from by first | exact Or.inl ⟨i1, by omega⟩ | exact Or.inr ⟨i0, by omega⟩), ht⟩) (fun q h => by cases h) dX5_after_12
  · have k4 := mt n_le32.mpr c4
    rw [i0] at k4
    refine lv_iconst (v := 1) hx hb dX5_after_7 (by decide) ?_
    refine lv_goto (tgt := 12) hx hb dX5_after_8 (by decide) ?_
    exact W.zret (v := 1) hx hb hr rfl (fun t ht hW => ⟨1, rfl, (show ((1 : Int32).toInt = 1 ∧ ((w 1).toInt < (w 0).toInt ∨ ((w 0).toInt = (w 1).toInt ∧ (pt 1).toInt < (pt 0).toInt))) ∨ ((1 : Int32).toInt = 0 ∧ ¬ ((w 1).toInt < (w 0).toInt ∨ ((w 0).toInt = (w 1).toInt ∧ (pt 1).toInt < (pt 0).toInt))) from by first | exact Or.inl ⟨i1, by omega⟩ | exact Or.inr ⟨i0, by omega⟩), ht⟩) (fun q h => by cases h) dX5_after_12
abbrev wsX5_whole : List Cond := ws_ yX5_whole cX5_whole 2 (some .long)
set_option maxHeartbeats 4000000 in
set_option maxRecDepth 100000 in
/-- the seconds -/
theorem metX5_whole (l : Launch) (dC : Nat → ClassId) (dI : Nat → Nat → Nat) (mo mw mp : Nat) (d1 d2 : ClassId) (w pt : Nat → Int64) (i : Int32) (j : Nat) (hj : j < 2) (ej : i &&& 1 = nI j) : Met l yX5_whole wsX5_whole ({ frames := 1, cells := 0, slots := 0, locals := 20 }) (va_Pc [.ref mo, .int i] (fun U => va_K (dC, dI) vwCl (MT d1 d2) U ∧ va_P (dC, dI) vwCl (MW mo mw mp d1 d2 w pt) U.heap)) (vp_Sl (fun (r : Int64) => r = w j)) 0 0 (fun _ => False) := by
  refine Met.ofW (cc := cX5_whole) (maxL := 2) (ret := (some .long)) (by decide) rfl ?_
  intro p e s m args below meth c s₁ B hml hv
  obtain ⟨rfl, hK, hP⟩ := hv
  have hx := B.exec
  have hb := B.bytes
  have hr := B.returns
  have hts := atoms_spec (ws := wsX5_whole) B.pre
  have hts : ∀ w ∈ lw_all, w.before _ s = true := fun w h => hts w (List.mem_cons_of_mem _ h)
  have hown : s.vm.findClass RX5 = some m.cls := findClass_of_methodNamed B.named
  have hlocks := B.notSynchronized
  have hl := lv_entry ([.ref mo, .int i]) (n := 2) (Nat.le_of_ble_eq_true rfl)
  rw [lg_entry_eq]
  generalize (lg_sl ([.ref mo, .int i]) ++ List.replicate (2 - (lg_sl ([.ref mo, .int i])).length) Slot.unset).toArray = ls at hl ⊢
  have hl : lv_has ls 2 [(0, .ref mo), (1, .int i)] := hl
  have hP : va_P (dC, dI) vwCl (MW mo mw mp d1 d2 w pt) s.heap := hP
  refine lv_aload_n hx hb dX5_whole_0 rfl (lv_at hl 0 rfl) ?_
  refine va_get (D := (dC, dI)) (ci := 2) (v := .ref mw) (C := RX5) (T := TX5) (N := 2) hx hb hts in_X5 hown hK hP 0 rfl rfl 0 (by decide) (hts _ q266) (fun _ h9 => h9) rfl dX5_whole_1 ?_
  refine lv_iload_n hx hb dX5_whole_4 rfl (lv_at hl 1 rfl) ?_
  refine vp_callSi (W.runS (As := [.int i]) (rest := [.ref mw]) ⟨hx, hb, hml, hown, hts⟩ (metX5_index l i) (va_cwS 1 hts (lw_S q278 q279 q14 q280) rfl rfl rfl (by decide +kernel) ⟨Nat.le_of_ble_eq_true rfl, Nat.le_of_ble_eq_true rfl⟩) ⟨bl_0, fun U hU hW => ⟨rfl, trivial⟩⟩ rfl rfl hl.1 rfl (lv_room (Nat.le_of_ble_eq_true rfl)) dX5_whole_5 ⟨Nat.le_of_ble_eq_true rfl, Nat.le_of_ble_eq_true rfl⟩) (fun r5 hr5 => ?_)
  obtain rfl : r5 = nI j := hr5.trans ej
  refine va_lald hx hb hK hP 1 0 rfl rfl (n_in hj) dX5_whole_8 ?_
  refine lv_topl (fun v8 e8 => ?_)
  rw [n_cl hj] at e8
  exact W.lret (v := v8) hx hb hr (fun t ht hW => ⟨v8, rfl, (show v8 = w j from by exact e8), ht⟩) (fun q h => by cases h) dX5_whole_9
abbrev wsX5_nano : List Cond := ws_ yX5_nano cX5_nano 2 (some .int)
set_option maxHeartbeats 4000000 in
set_option maxRecDepth 100000 in
/-- the nanos -/
theorem metX5_nano (l : Launch) (dC : Nat → ClassId) (dI : Nat → Nat → Nat) (mo mw mp : Nat) (d1 d2 : ClassId) (w pt : Nat → Int64) (i : Int32) (j : Nat) (hj : j < 2) (ej : i &&& 1 = nI j) (hp1 : 0 ≤ (pt j).toInt) (hp2 : (pt j).toInt < 1000000000) : Met l yX5_nano wsX5_nano ({ frames := 1, cells := 0, slots := 0, locals := 20 }) (va_Pc [.ref mo, .int i] (fun U => va_K (dC, dI) vwCl (MT d1 d2) U ∧ va_P (dC, dI) vwCl (MW mo mw mp d1 d2 w pt) U.heap)) (vp_Si (fun (r : Int32) => r.toInt = (pt j).toInt)) 0 0 (fun _ => False) := by
  refine Met.ofW (cc := cX5_nano) (maxL := 2) (ret := (some .int)) (by decide) rfl ?_
  intro p e s m args below meth c s₁ B hml hv
  obtain ⟨rfl, hK, hP⟩ := hv
  have hx := B.exec
  have hb := B.bytes
  have hr := B.returns
  have hts := atoms_spec (ws := wsX5_nano) B.pre
  have hts : ∀ w ∈ lw_all, w.before _ s = true := fun w h => hts w (List.mem_cons_of_mem _ h)
  have hown : s.vm.findClass RX5 = some m.cls := findClass_of_methodNamed B.named
  have hlocks := B.notSynchronized
  have hl := lv_entry ([.ref mo, .int i]) (n := 2) (Nat.le_of_ble_eq_true rfl)
  rw [lg_entry_eq]
  generalize (lg_sl ([.ref mo, .int i]) ++ List.replicate (2 - (lg_sl ([.ref mo, .int i])).length) Slot.unset).toArray = ls at hl ⊢
  have hl : lv_has ls 2 [(0, .ref mo), (1, .int i)] := hl
  have hP : va_P (dC, dI) vwCl (MW mo mw mp d1 d2 w pt) s.heap := hP
  refine lv_aload_n hx hb dX5_nano_0 rfl (lv_at hl 0 rfl) ?_
  refine va_get (D := (dC, dI)) (ci := 2) (v := .ref mp) (C := RX5) (T := TX5) (N := 2) hx hb hts in_X5 hown hK hP 0 rfl rfl 1 (by decide) (hts _ q267) (fun _ h9 => h9) rfl dX5_nano_1 ?_
  refine lv_iload_n hx hb dX5_nano_4 rfl (lv_at hl 1 rfl) ?_
  refine vp_callSi (W.runS (As := [.int i]) (rest := [.ref mp]) ⟨hx, hb, hml, hown, hts⟩ (metX5_index l i) (va_cwS 1 hts (lw_S q278 q279 q14 q280) rfl rfl rfl (by decide +kernel) ⟨Nat.le_of_ble_eq_true rfl, Nat.le_of_ble_eq_true rfl⟩) ⟨bl_0, fun U hU hW => ⟨rfl, trivial⟩⟩ rfl rfl hl.1 rfl (lv_room (Nat.le_of_ble_eq_true rfl)) dX5_nano_5 ⟨Nat.le_of_ble_eq_true rfl, Nat.le_of_ble_eq_true rfl⟩) (fun r5 hr5 => ?_)
  obtain rfl : r5 = nI j := hr5.trans ej
  refine va_lald hx hb hK hP 2 1 rfl rfl (n_in hj) dX5_nano_8 ?_
  refine lv_topl (fun v8 e8 => ?_)
  rw [n_cl hj] at e8
  have g8 := congrArg Int64.toInt e8
  refine lv_l2i hx hb dX5_nano_9 rfl ?_
  refine lv_topi (fun v9 e9 => ?_)
  exact W.iret (v := v9) hx hb hr (fun t ht hW => ⟨v9, rfl, (show v9.toInt = (pt j).toInt from by rw [n_l2i e9 (by omega) (by omega), g8]), ht⟩) (fun q h => by cases h) dX5_nano_10
abbrev wsX5_milli : List Cond := ws_ yX5_milli cX5_milli 3 (some .long)
set_option maxHeartbeats 4000000 in
set_option maxRecDepth 100000 in
/-- milliseconds -/
theorem metX5_milli (l : Launch) (dC : Nat → ClassId) (dI : Nat → Nat → Nat) (mo mw mp : Nat) (d1 d2 : ClassId) (w pt : Nat → Int64) (i : Int32) (j : Nat) (hj : j < 2) (ej : i &&& 1 = nI j) (hp1 : 0 ≤ (pt j).toInt) (hp2 : (pt j).toInt < 1000000000) : Met l yX5_milli wsX5_milli ({ frames := 1, cells := 0, slots := 0, locals := 20 }) (va_Pc [.ref mo, .int i] (fun U => va_K (dC, dI) vwCl (MT d1 d2) U ∧ va_P (dC, dI) vwCl (MW mo mw mp d1 d2 w pt) U.heap)) (vp_Sl (fun (r : Int64) => ((-9000000000000000 ≤ (w j).toInt ∧ (w j).toInt ≤ 9000000000000000) ∧ r.toInt = (w j).toInt * 1000 + (pt j).toInt / 1000000) ∨ (¬ (-9000000000000000 ≤ (w j).toInt ∧ (w j).toInt ≤ 9000000000000000) ∧ r.toInt = 0))) 0 0 (fun _ => False) := by
  refine Met.ofW (cc := cX5_milli) (maxL := 3) (ret := (some .long)) (by decide) rfl ?_
  intro p e s m args below meth c s₁ B hml hv
  obtain ⟨rfl, hK, hP⟩ := hv
  have hx := B.exec
  have hb := B.bytes
  have hr := B.returns
  have hts := atoms_spec (ws := wsX5_milli) B.pre
  have hts : ∀ w ∈ lw_all, w.before _ s = true := fun w h => hts w (List.mem_cons_of_mem _ h)
  have hown : s.vm.findClass RX5 = some m.cls := findClass_of_methodNamed B.named
  have hlocks := B.notSynchronized
  have hl := lv_entry ([.ref mo, .int i]) (n := 3) (Nat.le_of_ble_eq_true rfl)
  rw [lg_entry_eq]
  generalize (lg_sl ([.ref mo, .int i]) ++ List.replicate (3 - (lg_sl ([.ref mo, .int i])).length) Slot.unset).toArray = ls at hl ⊢
  have hl : lv_has ls 3 [(0, .ref mo), (1, .int i)] := hl
  have hP : va_P (dC, dI) vwCl (MW mo mw mp d1 d2 w pt) s.heap := hP
  refine lv_iload_n hx hb dX5_milli_0 rfl (lv_at hl 1 rfl) ?_
  refine vp_callSi (W.runS (As := [.int i]) (rest := []) ⟨hx, hb, hml, hown, hts⟩ (metX5_index l i) (va_cwS 1 hts (lw_S q278 q279 q14 q280) rfl rfl rfl (by decide +kernel) ⟨Nat.le_of_ble_eq_true rfl, Nat.le_of_ble_eq_true rfl⟩) ⟨bl_0, fun U hU hW => ⟨rfl, trivial⟩⟩ rfl rfl hl.1 rfl (lv_room (Nat.le_of_ble_eq_true rfl)) dX5_milli_1 ⟨Nat.le_of_ble_eq_true rfl, Nat.le_of_ble_eq_true rfl⟩) (fun r1 hr1 => ?_)
  obtain rfl : r1 = nI j := hr1.trans ej
  refine lv_istore_n (lv' := [(2, .int (nI j)), (0, .ref mo), (1, .int i)]) hx hb dX5_milli_4 rfl hl (by decide) rfl (fun ls hl => ?_)
  refine lv_aload_n hx hb dX5_milli_5 rfl (lv_at hl 1 rfl) ?_
  refine va_get (D := (dC, dI)) (ci := 2) (v := .ref mw) (C := RX5) (T := TX5) (N := 2) hx hb hts in_X5 hown hK hP 0 rfl rfl 0 (by decide) (hts _ q266) (fun _ h9 => h9) rfl dX5_milli_6 ?_
  refine lv_iload_n hx hb dX5_milli_9 rfl (lv_at hl 0 rfl) ?_
  refine va_lald hx hb hK hP 1 0 rfl rfl (n_in hj) dX5_milli_10 ?_
  refine lv_topl (fun v10 e10 => ?_)
  rw [n_cl hj] at e10
  have g10 := congrArg Int64.toInt e10
  refine lv_ldc2 (v := 9000000000000000) hx hb hown (hts _ q342) dX5_milli_11 ?_
  refine W.lcmp hx hb dX5_milli_14 ?_
  refine lv_if_gt (tgt := 31) hx hb dX5_milli_15 (by decide) (fun c15 => ?_) (fun c15 => ?_)
  · have k15 := n_gt.mp c15
    rw [zF] at k15
    refine lv_lconst (v := 0) hx hb dX5_milli_31 (by decide) ?_
    exact W.lret (v := 0) hx hb hr (fun t ht hW => ⟨0, rfl, (show ((-9000000000000000 ≤ (w j).toInt ∧ (w j).toInt ≤ 9000000000000000) ∧ (0 : Int64).toInt = (w j).toInt * 1000 + (pt j).toInt / 1000000) ∨ (¬ (-9000000000000000 ≤ (w j).toInt ∧ (w j).toInt ≤ 9000000000000000) ∧ (0 : Int64).toInt = 0) from by first | exact Or.inl ⟨by omega, by omega⟩ | exact Or.inr ⟨by omega, z0⟩), ht⟩) (fun q h => by cases h) dX5_milli_32
  · have k15 := mt n_gt.mpr c15
    rw [zF] at k15
    refine lv_aload_n hx hb dX5_milli_18 rfl (lv_at hl 1 rfl) ?_
    refine va_get (D := (dC, dI)) (ci := 2) (v := .ref mw) (C := RX5) (T := TX5) (N := 2) hx hb hts in_X5 hown hK hP 0 rfl rfl 0 (by decide) (hts _ q266) (fun _ h9 => h9) rfl dX5_milli_19 ?_
    refine lv_iload_n hx hb dX5_milli_22 rfl (lv_at hl 0 rfl) ?_
    refine va_lald hx hb hK hP 1 0 rfl rfl (n_in hj) dX5_milli_23 ?_
    refine lv_topl (fun v23 e23 => ?_)
    rw [n_cl hj] at e23
    have g23 := congrArg Int64.toInt e23
    refine lv_ldc2 (v := (-9000000000000000)) hx hb hown (hts _ q343) dX5_milli_24 ?_
    refine W.lcmp hx hb dX5_milli_27 ?_
    refine lv_if_ge (tgt := 33) hx hb dX5_milli_28 (by decide) (fun c28 => ?_) (fun c28 => ?_)
    · have k28 := n_ge.mp c28
      rw [zFn] at k28
      refine lv_aload_n hx hb dX5_milli_33 rfl (lv_at hl 1 rfl) ?_
      refine va_get (D := (dC, dI)) (ci := 2) (v := .ref mw) (C := RX5) (T := TX5) (N := 2) hx hb hts in_X5 hown hK hP 0 rfl rfl 0 (by decide) (hts _ q266) (fun _ h9 => h9) rfl dX5_milli_34 ?_
      refine lv_iload_n hx hb dX5_milli_37 rfl (lv_at hl 0 rfl) ?_
      refine va_lald hx hb hK hP 1 0 rfl rfl (n_in hj) dX5_milli_38 ?_
      refine lv_topl (fun v38 e38 => ?_)
      rw [n_cl hj] at e38
      have g38 := congrArg Int64.toInt e38
      refine lv_ldc2 (v := 1000) hx hb hown (hts _ q316) dX5_milli_39 ?_
      refine lv_lmul hx hb dX5_milli_42 ?_
      refine lv_topl (fun v42 e42 => ?_)
      have g42 := n_mul e42 (by rw [z1000]; omega) (by rw [z1000]; omega)
      rw [z1000] at g42
      refine lv_aload_n hx hb dX5_milli_43 rfl (lv_at hl 1 rfl) ?_
      refine va_get (D := (dC, dI)) (ci := 2) (v := .ref mp) (C := RX5) (T := TX5) (N := 2) hx hb hts in_X5 hown hK hP 0 rfl rfl 1 (by decide) (hts _ q267) (fun _ h9 => h9) rfl dX5_milli_44 ?_
      refine lv_iload_n hx hb dX5_milli_47 rfl (lv_at hl 0 rfl) ?_
      refine va_lald hx hb hK hP 2 1 rfl rfl (n_in hj) dX5_milli_48 ?_
      refine lv_topl (fun v48 e48 => ?_)
      rw [n_cl hj] at e48
      have g48 := congrArg Int64.toInt e48
      refine lv_ldc2 (v := 1000000) hx hb hown (hts _ q307) dX5_milli_49 ?_
      refine lv_ldiv hx hb dX5_milli_52 (by decide) ?_
      refine lv_topl (fun v52 e52 => ?_)
      have g52 := n_div e52 1000000 zM (by decide)
      refine lv_ladd hx hb dX5_milli_53 ?_
      refine lv_topl (fun v53 e53 => ?_)
      have g53 := n_add e53 (by omega) (by omega)
      exact W.lret (v := v53) hx hb hr (fun t ht hW => ⟨v53, rfl, (show ((-9000000000000000 ≤ (w j).toInt ∧ (w j).toInt ≤ 9000000000000000) ∧ v53.toInt = (w j).toInt * 1000 + (pt j).toInt / 1000000) ∨ (¬ (-9000000000000000 ≤ (w j).toInt ∧ (w j).toInt ≤ 9000000000000000) ∧ v53.toInt = 0) from by first | exact Or.inl ⟨by omega, by omega⟩ | exact Or.inr ⟨by omega, z0⟩), ht⟩) (fun q h => by cases h) dX5_milli_54
    · have k28 := mt n_ge.mpr c28
      rw [zFn] at k28
      refine lv_lconst (v := 0) hx hb dX5_milli_31 (by decide) ?_
      exact W.lret (v := 0) hx hb hr (fun t ht hW => ⟨0, rfl, (show ((-9000000000000000 ≤ (w j).toInt ∧ (w j).toInt ≤ 9000000000000000) ∧ (0 : Int64).toInt = (w j).toInt * 1000 + (pt j).toInt / 1000000) ∨ (¬ (-9000000000000000 ≤ (w j).toInt ∧ (w j).toInt ≤ 9000000000000000) ∧ (0 : Int64).toInt = 0) from by first | exact Or.inl ⟨by omega, by omega⟩ | exact Or.inr ⟨by omega, z0⟩), ht⟩) (fun q h => by cases h) dX5_milli_32
abbrev wsX5_put : List Cond := ws_ yX5_put cX5_put 8 (none)
set_option maxHeartbeats 4000000 in
set_option maxRecDepth 100000 in
/-- the point j, b nanos after a seconds -/
theorem metX5_put (l : Launch) (dC : Nat → ClassId) (dI : Nat → Nat → Nat) (mo mw mp : Nat) (d1 d2 : ClassId) (w pt : Nat → Int64) (j : Nat) (hj : j < 2) (a b : Int64) (ha1 : -4000000000000000000 ≤ a.toInt) (ha2 : a.toInt ≤ 4000000000000000000) (hb1 : -4000000000000000000 ≤ b.toInt) (hb2 : b.toInt ≤ 4000000000000000000) (sz : Nat) : Met l yX5_put wsX5_put ({ frames := 1, cells := 0, slots := 0, locals := 25 }) (va_Pc [.ref mo, .int (nI j), .long a, .long b] (MPre (dC, dI) mo mw mp d1 d2 w pt sz)) (va_Qv (fun (u : (Nat → Int64) × (Nat → Int64)) => PM w pt u j (a.toInt + b.toInt / 1000000000) (b.toInt % 1000000000)) (MB (dC, dI) mo mw mp d1 d2 w pt sz) (va_A (MW mo mw mp d1 d2 w pt) sz)) 0 0 (va_A (MW mo mw mp d1 d2 w pt) sz) := by
  refine Met.ofW (cc := cX5_put) (maxL := 8) (ret := (none)) (by decide) rfl ?_
  intro p e s m args below meth c s₁ B hml hv
  obtain ⟨rfl, hsz, hP, hK, hD0⟩ := hv
  have hx := B.exec
  have hb := B.bytes
  have hr := B.returns
  have hts := atoms_spec (ws := wsX5_put) B.pre
  have hts : ∀ w ∈ lw_all, w.before _ s = true := fun w h => hts w (List.mem_cons_of_mem _ h)
  have hown : s.vm.findClass RX5 = some m.cls := findClass_of_methodNamed B.named
  have hlocks := B.notSynchronized
  subst hsz
  have hD := hD0.self (sz := s.heap.size)
  have hA : ∀ q : Nat, s.heap.size ≤ q → va_A (MW mo mw mp d1 d2 w pt) s.heap.size q := fun q h => Or.inr h
  have hS : va_S (va_A (MW mo mw mp d1 d2 w pt) s.heap.size) s.heap s.heap [] := va_S.rf
  have hP : va_P (dC, dI) vwCl (MW mo mw mp d1 d2 w pt) s.heap := hP
  have hl := lv_entry ([.ref mo, .int (nI j), .long a, .long b]) (n := 8) (Nat.le_of_ble_eq_true rfl)
  rw [lg_entry_eq]
  generalize (lg_sl ([.ref mo, .int (nI j), .long a, .long b]) ++ List.replicate (8 - (lg_sl ([.ref mo, .int (nI j), .long a, .long b])).length) Slot.unset).toArray = ls at hl ⊢
  have hl : lv_has ls 8 [(0, .ref mo), (1, .int (nI j)), (2, .long a), (4, .long b)] := hl
  refine lv_lload hx hb dX5_put_0 (lv_at hl 3 rfl) ?_
  refine lv_ldc2 (v := 1000000000) hx hb hown (hts _ q290) dX5_put_2 ?_
  refine vp_callSl (W.runS (As := [.long b, .long 1000000000]) (rest := []) ⟨hx, hb, hml, hown, hts⟩ (metX5_floor l b 1000000000 1000000000 zG (Or.inl rfl)) (va_cwS 2 hts (lw_S q291 q292 q14 q293) rfl rfl rfl (by decide +kernel) ⟨Nat.le_of_ble_eq_true rfl, Nat.le_of_ble_eq_true rfl⟩) ⟨bl_0, fun U hU hW => ⟨rfl, trivial⟩⟩ rfl rfl hl.1 rfl (lv_room (Nat.le_of_ble_eq_true rfl)) dX5_put_5 ⟨Nat.le_of_ble_eq_true rfl, Nat.le_of_ble_eq_true rfl⟩) (fun r5 hr5 => ?_)
  have hr5 : r5.toInt = b.toInt / 1000000000 := hr5
  refine lv_lstore (lv' := [(6, .long r5), (0, .ref mo), (1, .int (nI j)), (2, .long a), (4, .long b)]) hx hb dX5_put_8 hl (by decide) rfl (fun ls hl => ?_)
  refine lv_aload_n hx hb dX5_put_10 rfl (lv_at hl 1 rfl) ?_
  refine va_get (D := (dC, dI)) (ci := 2) (v := .ref mw) (C := RX5) (T := TX5) (N := 2) hx hb hts in_X5 hown hK hP 0 rfl rfl 0 (by decide) (hts _ q266) (fun _ h9 => h9) rfl dX5_put_11 ?_
  refine lv_iload_n hx hb dX5_put_14 rfl (lv_at hl 2 rfl) ?_
  refine lv_lload_n hx hb dX5_put_15 rfl (lv_at hl 3 rfl) ?_
  refine lv_lload hx hb dX5_put_16 (lv_at hl 0 rfl) ?_
  refine lv_ladd hx hb dX5_put_18 ?_
  refine lv_topl (fun v18 e18 => ?_)
  have g18 := n_add e18 (by omega) (by omega)
  refine va_last hx hb hK hP hD hS 1 0 rfl rfl (n_in hj) dX5_put_19 (fun H locs hP hD hS => ?_)
  rw [n_cl hj] at hP hD
  have hP : va_P (dC, dI) vwCl (MW mo mw mp d1 d2 (vp_updL w j v18) pt) H := hP
  have hD : va_D (va_A (MW mo mw mp d1 d2 w pt) s.heap.size) (MW mo mw mp d1 d2 (vp_updL w j v18) pt) := hD
  refine lv_aload_n hx hb dX5_put_20 rfl (lv_at hl 1 rfl) ?_
  refine va_get (D := (dC, dI)) (ci := 2) (v := .ref mp) (C := RX5) (T := TX5) (N := 2) hx hb hts in_X5 hown hK hP 0 rfl rfl 1 (by decide) (hts _ q267) (fun _ h9 => h9) rfl dX5_put_21 ?_
  refine lv_iload_n hx hb dX5_put_24 rfl (lv_at hl 2 rfl) ?_
  refine lv_lload hx hb dX5_put_25 (lv_at hl 4 rfl) ?_
  refine lv_lload hx hb dX5_put_27 (lv_at hl 0 rfl) ?_
  refine lv_ldc2 (v := 1000000000) hx hb hown (hts _ q290) dX5_put_29 ?_
  refine lv_lmul hx hb dX5_put_32 ?_
  refine lv_topl (fun v32 e32 => ?_)
  have g32 := n_mul e32 (by rw [zG]; omega) (by rw [zG]; omega)
  rw [zG] at g32
  refine lv_lsub hx hb dX5_put_33 ?_
  refine lv_topl (fun v33 e33 => ?_)
  have g33 := n_sub e33 (by omega) (by omega)
  refine va_last hx hb hK hP hD hS 2 1 rfl rfl (n_in hj) dX5_put_34 (fun H locs hP hD hS => ?_)
  rw [n_cl hj] at hP hD
  have hP : va_P (dC, dI) vwCl (MW mo mw mp d1 d2 (vp_updL w j v18) (vp_updL pt j v33)) H := hP
  have hD : va_D (va_A (MW mo mw mp d1 d2 w pt) s.heap.size) (MW mo mw mp d1 d2 (vp_updL w j v18) (vp_updL pt j v33)) := hD
  exact W.vret hx hb hr (fun t ht hW => ⟨⟨(vp_updL w j v18, vp_updL pt j v33), rfl, PM.mk (by omega) (by omega), by rw [ht]; exact hP, hD⟩, hS.F ht⟩) hS.2.2 dX5_put_35
abbrev wsX5_set : List Cond := ws_ yX5_set cX5_set 5 (none)
set_option maxHeartbeats 4000000 in
set_option maxRecDepth 100000 in
/-- a point is set -/
theorem metX5_set (l : Launch) (dC : Nat → ClassId) (dI : Nat → Nat → Nat) (mo mw mp : Nat) (d1 d2 : ClassId) (w pt : Nat → Int64) (i h l0 nn : Int32) (j : Nat) (hj : j < 2) (ej : i &&& 1 = nI j) (sz : Nat) : Met l yX5_set wsX5_set ({ frames := 2, cells := 0, slots := 0, locals := 52 }) (va_Pc [.ref mo, .int i, .int h, .int l0, .int nn] (MPre (dC, dI) mo mw mp d1 d2 w pt sz)) (va_Qv (fun (u : (Nat → Int64) × (Nat → Int64)) => PM w pt u j ((jn h l0).tmod 31000000000000000 + nn.toInt / 1000000000) (nn.toInt % 1000000000)) (MB (dC, dI) mo mw mp d1 d2 w pt sz) (va_A (MW mo mw mp d1 d2 w pt) sz)) 0 0 (va_A (MW mo mw mp d1 d2 w pt) sz) := by
  refine Met.ofW (cc := cX5_set) (maxL := 5) (ret := (none)) (by decide) rfl ?_
  intro p e s m args below meth c s₁ B hml hv
  obtain ⟨rfl, hsz, hP, hK, hD0⟩ := hv
  have hx := B.exec
  have hb := B.bytes
  have hr := B.returns
  have hts := atoms_spec (ws := wsX5_set) B.pre
  have hts : ∀ w ∈ lw_all, w.before _ s = true := fun w h => hts w (List.mem_cons_of_mem _ h)
  have hown : s.vm.findClass RX5 = some m.cls := findClass_of_methodNamed B.named
  have hlocks := B.notSynchronized
  subst hsz
  have hD := hD0.self (sz := s.heap.size)
  have hA : ∀ q : Nat, s.heap.size ≤ q → va_A (MW mo mw mp d1 d2 w pt) s.heap.size q := fun q h => Or.inr h
  have hS : va_S (va_A (MW mo mw mp d1 d2 w pt) s.heap.size) s.heap s.heap [] := va_S.rf
  have hP : va_P (dC, dI) vwCl (MW mo mw mp d1 d2 w pt) s.heap := hP
  have hl := lv_entry ([.ref mo, .int i, .int h, .int l0, .int nn]) (n := 5) (Nat.le_of_ble_eq_true rfl)
  rw [lg_entry_eq]
  generalize (lg_sl ([.ref mo, .int i, .int h, .int l0, .int nn]) ++ List.replicate (5 - (lg_sl ([.ref mo, .int i, .int h, .int l0, .int nn])).length) Slot.unset).toArray = ls at hl ⊢
  have hl : lv_has ls 5 [(0, .ref mo), (1, .int i), (2, .int h), (3, .int l0), (4, .int nn)] := hl
  refine lv_aload_n hx hb dX5_set_0 rfl (lv_at hl 0 rfl) ?_
  refine lv_iload_n hx hb dX5_set_1 rfl (lv_at hl 1 rfl) ?_
  refine vp_callSi (W.runS (As := [.int i]) (rest := [.ref mo]) ⟨hx, hb, hml, hown, hts⟩ (metX5_index l i) (va_cwS 1 hts (lw_S q278 q279 q14 q280) rfl rfl rfl (by decide +kernel) ⟨Nat.le_of_ble_eq_true rfl, Nat.le_of_ble_eq_true rfl⟩) ⟨bl_0, fun U hU hW => ⟨rfl, trivial⟩⟩ rfl rfl hl.1 rfl (lv_room (Nat.le_of_ble_eq_true rfl)) dX5_set_2 ⟨Nat.le_of_ble_eq_true rfl, Nat.le_of_ble_eq_true rfl⟩) (fun r2 hr2 => ?_)
  obtain rfl : r2 = nI j := hr2.trans ej
  refine lv_iload_n hx hb dX5_set_5 rfl (lv_at hl 2 rfl) ?_
  refine lv_iload_n hx hb dX5_set_6 rfl (lv_at hl 3 rfl) ?_
  refine vp_callSl (W.runS (As := [.int h, .int l0]) (rest := [.int (nI j), .ref mo]) ⟨hx, hb, hml, hown, hts⟩ (metX5_join l h l0) (va_cwS 2 hts (lw_S q281 q282 q14 q283) rfl rfl rfl (by decide +kernel) ⟨Nat.le_of_ble_eq_true rfl, Nat.le_of_ble_eq_true rfl⟩) ⟨bl_0, fun U hU hW => ⟨rfl, trivial⟩⟩ rfl rfl hl.1 rfl (lv_room (Nat.le_of_ble_eq_true rfl)) dX5_set_7 ⟨Nat.le_of_ble_eq_true rfl, Nat.le_of_ble_eq_true rfl⟩) (fun r7 hr7 => ?_)
  have hr7 : r7.toInt = jn h l0 := hr7
  refine lv_ldc2 (v := 31000000000000000) hx hb hown (hts _ q285) dX5_set_10 ?_
  refine lv_lrem hx hb dX5_set_13 (by decide) ?_
  refine lv_topl (fun v13 e13 => ?_)
  have g13 : v13.toInt = (jn h l0).tmod 31000000000000000 := by rw [e13, n_rem' _ _ (by rw [zE]; decide), hr7, zE]
  have t13 := n_tm (a := jn h l0) (b := 31000000000000000)
  refine lv_iload hx hb dX5_set_14 (lv_at hl 4 rfl) ?_
  refine lv_i2l hx hb dX5_set_16 rfl ?_
  refine lv_topl (fun v16 e16 => ?_)
  have g16 := n_i2l e16
  have b1 := n_lo32 nn
  have b2 := n_hi32 nn
  have hF17 := va_free (wc := MW mo mw mp d1 d2 w pt) hD hS hA [0, 1, 2] rfl
  refine va_callv (va_runV (As := [.int (nI j), .long v13, .long v16]) (rest := []) ⟨hx, hb, hml, hown, hts⟩ (metX5_put l dC dI mo mw mp d1 d2 w pt j hj v13 v16 (by omega) (by omega) (by omega) (by omega) s.heap.size) (cwV 3 hts (lw_V q286 q288 qs2 q14 q289) rfl rfl rfl (by decide +kernel) ⟨Nat.le_of_ble_eq_true rfl, Nat.le_of_ble_eq_true rfl⟩) ⟨bl_m, va_recv hK hP (ci := 2) (q0 := 0) rfl rfl, fun U hU hW => ⟨rfl, by rw [hU], by rw [hU]; exact hP, va_K.moved hW.alike hK, hD.weaken (fun _ _ _ _ => trivial)⟩⟩ rfl rfl hl.1 rfl (lv_room (Nat.le_of_ble_eq_true rfl)) dX5_set_17 ⟨Nat.le_of_ble_eq_true rfl, Nat.le_of_ble_eq_true rfl⟩) hS (fun q _ h => hF17 q h) hF17 (fun u17 t17 H17 locs ht hvm hw17 hB17 hz17 hk17 hS => ?_)
  subst ht
  obtain ⟨uw, up⟩ := u17
  obtain ⟨hP1, hD1⟩ := hB17
  exact W.vret hx hb hr (fun t ht hW => ⟨⟨(uw, up), rfl, PM.of hw17 (by rw [g13, g16]) (by rw [g16]), by rw [ht]; exact hP1, hD1⟩, hS.F ht⟩) hS.2.2 dX5_set_20
abbrev wsX5_seconds : List Cond := ws_ yX5_seconds cX5_seconds 4 (some .boolean)
set_option maxHeartbeats 4000000 in
set_option maxRecDepth 100000 in
/-- seconds later -/
theorem metX5_seconds (l : Launch) (dC : Nat → ClassId) (dI : Nat → Nat → Nat) (mo mw mp : Nat) (d1 d2 : ClassId) (w pt : Nat → Int64) (i nn : Int32) (j : Nat) (hj : j < 2) (ej : i &&& 1 = nI j) (sz : Nat) : Met l yX5_seconds wsX5_seconds ({ frames := 1, cells := 0, slots := 0, locals := 21 }) (va_Pc [.ref mo, .int i, .int nn] (MPre (dC, dI) mo mw mp d1 d2 w pt sz)) (va_Qi (fun (r : Int32) (u : (Nat → Int64) × (Nat → Int64)) => (r.toInt = 1 ∧ (-31000000000000000 ≤ (w j).toInt ∧ (w j).toInt ≤ 31000000000000000) ∧ PM w pt u j ((w j).toInt + nn.toInt) ((pt j).toInt)) ∨ (r.toInt = 0 ∧ ¬ (-31000000000000000 ≤ (w j).toInt ∧ (w j).toInt ≤ 31000000000000000) ∧ u = (w, pt))) (MB (dC, dI) mo mw mp d1 d2 w pt sz) (va_A (MW mo mw mp d1 d2 w pt) sz)) 0 0 (va_A (MW mo mw mp d1 d2 w pt) sz) := by
  refine Met.ofW (cc := cX5_seconds) (maxL := 4) (ret := (some .boolean)) (by decide) rfl ?_
  intro p e s m args below meth c s₁ B hml hv
  obtain ⟨rfl, hsz, hP, hK, hD0⟩ := hv
  have hx := B.exec
  have hb := B.bytes
  have hr := B.returns
  have hts := atoms_spec (ws := wsX5_seconds) B.pre
  have hts : ∀ w ∈ lw_all, w.before _ s = true := fun w h => hts w (List.mem_cons_of_mem _ h)
  have hown : s.vm.findClass RX5 = some m.cls := findClass_of_methodNamed B.named
  have hlocks := B.notSynchronized
  subst hsz
  have hD := hD0.self (sz := s.heap.size)
  have hA : ∀ q : Nat, s.heap.size ≤ q → va_A (MW mo mw mp d1 d2 w pt) s.heap.size q := fun q h => Or.inr h
  have hS : va_S (va_A (MW mo mw mp d1 d2 w pt) s.heap.size) s.heap s.heap [] := va_S.rf
  have hP : va_P (dC, dI) vwCl (MW mo mw mp d1 d2 w pt) s.heap := hP
  have hl := lv_entry ([.ref mo, .int i, .int nn]) (n := 4) (Nat.le_of_ble_eq_true rfl)
  rw [lg_entry_eq]
  generalize (lg_sl ([.ref mo, .int i, .int nn]) ++ List.replicate (4 - (lg_sl ([.ref mo, .int i, .int nn])).length) Slot.unset).toArray = ls at hl ⊢
  have hl : lv_has ls 4 [(0, .ref mo), (1, .int i), (2, .int nn)] := hl
  have b1 := n_lo32 nn
  have b2 := n_hi32 nn
  refine lv_iload_n hx hb dX5_seconds_0 rfl (lv_at hl 1 rfl) ?_
  refine vp_callSi (W.runS (As := [.int i]) (rest := []) ⟨hx, hb, hml, hown, hts⟩ (metX5_index l i) (va_cwS 1 hts (lw_S q278 q279 q14 q280) rfl rfl rfl (by decide +kernel) ⟨Nat.le_of_ble_eq_true rfl, Nat.le_of_ble_eq_true rfl⟩) ⟨bl_0, fun U hU hW => ⟨rfl, trivial⟩⟩ rfl rfl hl.1 rfl (lv_room (Nat.le_of_ble_eq_true rfl)) dX5_seconds_1 ⟨Nat.le_of_ble_eq_true rfl, Nat.le_of_ble_eq_true rfl⟩) (fun r1 hr1 => ?_)
  obtain rfl : r1 = nI j := hr1.trans ej
  refine lv_istore_n (lv' := [(3, .int (nI j)), (0, .ref mo), (1, .int i), (2, .int nn)]) hx hb dX5_seconds_4 rfl hl (by decide) rfl (fun ls hl => ?_)
  refine lv_aload_n hx hb dX5_seconds_5 rfl (lv_at hl 1 rfl) ?_
  refine lv_iload_n hx hb dX5_seconds_6 rfl (lv_at hl 0 rfl) ?_
  refine vp_callSi (W.runV (As := [.int (nI j)]) (rest := []) ⟨hx, hb, hml, hown, hts⟩ (metX5_open l dC dI mo mw mp d1 d2 w pt j hj) (cwV 1 hts (lw_V q298 q300 qs3 q14 q301) rfl rfl rfl (by decide +kernel) ⟨Nat.le_of_ble_eq_true rfl, Nat.le_of_ble_eq_true rfl⟩) ⟨bl_rd, va_recv hK hP (ci := 2) (q0 := 0) rfl rfl, fun U hU hW => ⟨rfl, va_K.moved hW.alike hK, by rw [hU]; exact hP⟩⟩ rfl rfl hl.1 rfl (lv_room (Nat.le_of_ble_eq_true rfl)) dX5_seconds_7 ⟨Nat.le_of_ble_eq_true rfl, Nat.le_of_ble_eq_true rfl⟩) (fun r7 hr7 => ?_)
  have hr7 : (r7.toInt = 1 ∧ -31000000000000000 ≤ (w j).toInt ∧ (w j).toInt ≤ 31000000000000000) ∨ (r7.toInt = 0 ∧ ¬ (-31000000000000000 ≤ (w j).toInt ∧ (w j).toInt ≤ 31000000000000000)) := hr7
  refine lv_if_ne (tgt := 15) hx hb dX5_seconds_10 (by decide) (fun c10 => ?_) (fun c10 => ?_)
  · have k10 := mt n_eq32.mpr c10
    rw [i0] at k10
    refine lv_aload_n hx hb dX5_seconds_15 rfl (lv_at hl 1 rfl) ?_
    refine va_get (D := (dC, dI)) (ci := 2) (v := .ref mw) (C := RX5) (T := TX5) (N := 2) hx hb hts in_X5 hown hK hP 0 rfl rfl 0 (by decide) (hts _ q266) (fun _ h9 => h9) rfl dX5_seconds_16 ?_
    refine lv_iload_n hx hb dX5_seconds_19 rfl (lv_at hl 0 rfl) ?_
    refine lv_aload_n hx hb dX5_seconds_20 rfl (lv_at hl 1 rfl) ?_
    refine va_get (D := (dC, dI)) (ci := 2) (v := .ref mw) (C := RX5) (T := TX5) (N := 2) hx hb hts in_X5 hown hK hP 0 rfl rfl 0 (by decide) (hts _ q266) (fun _ h9 => h9) rfl dX5_seconds_21 ?_
    refine lv_iload_n hx hb dX5_seconds_24 rfl (lv_at hl 0 rfl) ?_
    refine va_lald hx hb hK hP 1 0 rfl rfl (n_in hj) dX5_seconds_25 ?_
    refine lv_topl (fun v25 e25 => ?_)
    rw [n_cl hj] at e25
    have g25 := congrArg Int64.toInt e25
    refine lv_iload_n hx hb dX5_seconds_26 rfl (lv_at hl 3 rfl) ?_
    refine lv_i2l hx hb dX5_seconds_27 rfl ?_
    refine lv_topl (fun v27 e27 => ?_)
    have g27 := n_i2l e27
    refine lv_ladd hx hb dX5_seconds_28 ?_
    refine lv_topl (fun v28 e28 => ?_)
    have g28 := n_add e28 (by omega) (by omega)
    refine va_last hx hb hK hP hD hS 1 0 rfl rfl (n_in hj) dX5_seconds_29 (fun H locs hP hD hS => ?_)
    rw [n_cl hj] at hP hD
    have hP : va_P (dC, dI) vwCl (MW mo mw mp d1 d2 (vp_updL w j v28) pt) H := hP
    have hD : va_D (va_A (MW mo mw mp d1 d2 w pt) s.heap.size) (MW mo mw mp d1 d2 (vp_updL w j v28) pt) := hD
    refine lv_iconst (v := 1) hx hb dX5_seconds_30 (by decide) ?_
    exact W.zret (v := 1) hx hb hr rfl (fun t ht hW => ⟨⟨1, (vp_updL w j v28, pt), rfl, Or.inl ⟨i1, by omega, PM.w (by omega)⟩, by rw [ht]; exact hP, hD⟩, hS.F ht⟩) hS.2.2 dX5_seconds_31
  · have k10 := n_eq32.mp c10
    rw [i0] at k10
    refine lv_iconst (v := 0) hx hb dX5_seconds_13 (by decide) ?_
    exact W.zret (v := 0) hx hb hr rfl (fun t ht hW => ⟨⟨0, (w, pt), rfl, Or.inr ⟨i0, by omega, rfl⟩, by rw [ht]; exact hP, hD⟩, hS.F ht⟩) hS.2.2 dX5_seconds_14
abbrev wsX5_millis : List Cond := ws_ yX5_millis cX5_millis 4 (some .boolean)
set_option maxHeartbeats 4000000 in
set_option maxRecDepth 100000 in
/-- milliseconds later -/
theorem metX5_millis (l : Launch) (dC : Nat → ClassId) (dI : Nat → Nat → Nat) (mo mw mp : Nat) (d1 d2 : ClassId) (w pt : Nat → Int64) (i nn : Int32) (j : Nat) (hj : j < 2) (ej : i &&& 1 = nI j) (hp1 : 0 ≤ (pt j).toInt) (hp2 : (pt j).toInt < 1000000000) (sz : Nat) : Met l yX5_millis wsX5_millis ({ frames := 2, cells := 0, slots := 0, locals := 52 }) (va_Pc [.ref mo, .int i, .int nn] (MPre (dC, dI) mo mw mp d1 d2 w pt sz)) (va_Qi (fun (r : Int32) (u : (Nat → Int64) × (Nat → Int64)) => (r.toInt = 1 ∧ (-31000000000000000 ≤ (w j).toInt ∧ (w j).toInt ≤ 31000000000000000) ∧ PM w pt u j ((w j).toInt + ((pt j).toInt + nn.toInt * 1000000) / 1000000000) (((pt j).toInt + nn.toInt * 1000000) % 1000000000)) ∨ (r.toInt = 0 ∧ ¬ (-31000000000000000 ≤ (w j).toInt ∧ (w j).toInt ≤ 31000000000000000) ∧ u = (w, pt))) (MB (dC, dI) mo mw mp d1 d2 w pt sz) (va_A (MW mo mw mp d1 d2 w pt) sz)) 0 0 (va_A (MW mo mw mp d1 d2 w pt) sz) := by
  refine Met.ofW (cc := cX5_millis) (maxL := 4) (ret := (some .boolean)) (by decide) rfl ?_
  intro p e s m args below meth c s₁ B hml hv
  obtain ⟨rfl, hsz, hP, hK, hD0⟩ := hv
  have hx := B.exec
  have hb := B.bytes
  have hr := B.returns
  have hts := atoms_spec (ws := wsX5_millis) B.pre
  have hts : ∀ w ∈ lw_all, w.before _ s = true := fun w h => hts w (List.mem_cons_of_mem _ h)
  have hown : s.vm.findClass RX5 = some m.cls := findClass_of_methodNamed B.named
  have hlocks := B.notSynchronized
  subst hsz
  have hD := hD0.self (sz := s.heap.size)
  have hA : ∀ q : Nat, s.heap.size ≤ q → va_A (MW mo mw mp d1 d2 w pt) s.heap.size q := fun q h => Or.inr h
  have hS : va_S (va_A (MW mo mw mp d1 d2 w pt) s.heap.size) s.heap s.heap [] := va_S.rf
  have hP : va_P (dC, dI) vwCl (MW mo mw mp d1 d2 w pt) s.heap := hP
  have hl := lv_entry ([.ref mo, .int i, .int nn]) (n := 4) (Nat.le_of_ble_eq_true rfl)
  rw [lg_entry_eq]
  generalize (lg_sl ([.ref mo, .int i, .int nn]) ++ List.replicate (4 - (lg_sl ([.ref mo, .int i, .int nn])).length) Slot.unset).toArray = ls at hl ⊢
  have hl : lv_has ls 4 [(0, .ref mo), (1, .int i), (2, .int nn)] := hl
  have b1 := n_lo32 nn
  have b2 := n_hi32 nn
  refine lv_iload_n hx hb dX5_millis_0 rfl (lv_at hl 1 rfl) ?_
  refine vp_callSi (W.runS (As := [.int i]) (rest := []) ⟨hx, hb, hml, hown, hts⟩ (metX5_index l i) (va_cwS 1 hts (lw_S q278 q279 q14 q280) rfl rfl rfl (by decide +kernel) ⟨Nat.le_of_ble_eq_true rfl, Nat.le_of_ble_eq_true rfl⟩) ⟨bl_0, fun U hU hW => ⟨rfl, trivial⟩⟩ rfl rfl hl.1 rfl (lv_room (Nat.le_of_ble_eq_true rfl)) dX5_millis_1 ⟨Nat.le_of_ble_eq_true rfl, Nat.le_of_ble_eq_true rfl⟩) (fun r1 hr1 => ?_)
  obtain rfl : r1 = nI j := hr1.trans ej
  refine lv_istore_n (lv' := [(3, .int (nI j)), (0, .ref mo), (1, .int i), (2, .int nn)]) hx hb dX5_millis_4 rfl hl (by decide) rfl (fun ls hl => ?_)
  refine lv_aload_n hx hb dX5_millis_5 rfl (lv_at hl 1 rfl) ?_
  refine lv_iload_n hx hb dX5_millis_6 rfl (lv_at hl 0 rfl) ?_
  refine vp_callSi (W.runV (As := [.int (nI j)]) (rest := []) ⟨hx, hb, hml, hown, hts⟩ (metX5_open l dC dI mo mw mp d1 d2 w pt j hj) (cwV 1 hts (lw_V q298 q300 qs3 q14 q301) rfl rfl rfl (by decide +kernel) ⟨Nat.le_of_ble_eq_true rfl, Nat.le_of_ble_eq_true rfl⟩) ⟨bl_rd, va_recv hK hP (ci := 2) (q0 := 0) rfl rfl, fun U hU hW => ⟨rfl, va_K.moved hW.alike hK, by rw [hU]; exact hP⟩⟩ rfl rfl hl.1 rfl (lv_room (Nat.le_of_ble_eq_true rfl)) dX5_millis_7 ⟨Nat.le_of_ble_eq_true rfl, Nat.le_of_ble_eq_true rfl⟩) (fun r7 hr7 => ?_)
  have hr7 : (r7.toInt = 1 ∧ -31000000000000000 ≤ (w j).toInt ∧ (w j).toInt ≤ 31000000000000000) ∨ (r7.toInt = 0 ∧ ¬ (-31000000000000000 ≤ (w j).toInt ∧ (w j).toInt ≤ 31000000000000000)) := hr7
  refine lv_if_ne (tgt := 15) hx hb dX5_millis_10 (by decide) (fun c10 => ?_) (fun c10 => ?_)
  · have k10 := mt n_eq32.mpr c10
    rw [i0] at k10
    refine lv_aload_n hx hb dX5_millis_15 rfl (lv_at hl 1 rfl) ?_
    refine lv_iload_n hx hb dX5_millis_16 rfl (lv_at hl 0 rfl) ?_
    refine lv_aload_n hx hb dX5_millis_17 rfl (lv_at hl 1 rfl) ?_
    refine va_get (D := (dC, dI)) (ci := 2) (v := .ref mw) (C := RX5) (T := TX5) (N := 2) hx hb hts in_X5 hown hK hP 0 rfl rfl 0 (by decide) (hts _ q266) (fun _ h9 => h9) rfl dX5_millis_18 ?_
    refine lv_iload_n hx hb dX5_millis_21 rfl (lv_at hl 0 rfl) ?_
    refine va_lald hx hb hK hP 1 0 rfl rfl (n_in hj) dX5_millis_22 ?_
    refine lv_topl (fun v22 e22 => ?_)
    rw [n_cl hj] at e22
    have g22 := congrArg Int64.toInt e22
    refine lv_aload_n hx hb dX5_millis_23 rfl (lv_at hl 1 rfl) ?_
    refine va_get (D := (dC, dI)) (ci := 2) (v := .ref mp) (C := RX5) (T := TX5) (N := 2) hx hb hts in_X5 hown hK hP 0 rfl rfl 1 (by decide) (hts _ q267) (fun _ h9 => h9) rfl dX5_millis_24 ?_
    refine lv_iload_n hx hb dX5_millis_27 rfl (lv_at hl 0 rfl) ?_
    refine va_lald hx hb hK hP 2 1 rfl rfl (n_in hj) dX5_millis_28 ?_
    refine lv_topl (fun v28 e28 => ?_)
    rw [n_cl hj] at e28
    have g28 := congrArg Int64.toInt e28
    refine lv_iload_n hx hb dX5_millis_29 rfl (lv_at hl 3 rfl) ?_
    refine lv_i2l hx hb dX5_millis_30 rfl ?_
    refine lv_topl (fun v30 e30 => ?_)
    have g30 := n_i2l e30
    refine lv_ldc2 (v := 1000000) hx hb hown (hts _ q307) dX5_millis_31 ?_
    refine lv_lmul hx hb dX5_millis_34 ?_
    refine lv_topl (fun v34 e34 => ?_)
    have g34 := n_mul e34 (by rw [zM]; omega) (by rw [zM]; omega)
    rw [zM] at g34
    refine lv_ladd hx hb dX5_millis_35 ?_
    refine lv_topl (fun v35 e35 => ?_)
    have g35 := n_add e35 (by omega) (by omega)
    have hF36 := va_free (wc := MW mo mw mp d1 d2 w pt) hD hS hA [0, 1, 2] rfl
    refine va_callv (va_runV (As := [.int (nI j), .long v22, .long v35]) (rest := []) ⟨hx, hb, hml, hown, hts⟩ (metX5_put l dC dI mo mw mp d1 d2 w pt j hj v22 v35 (by omega) (by omega) (by omega) (by omega) s.heap.size) (cwV 3 hts (lw_V q286 q288 qs2 q14 q289) rfl rfl rfl (by decide +kernel) ⟨Nat.le_of_ble_eq_true rfl, Nat.le_of_ble_eq_true rfl⟩) ⟨bl_m, va_recv hK hP (ci := 2) (q0 := 0) rfl rfl, fun U hU hW => ⟨rfl, by rw [hU], by rw [hU]; exact hP, va_K.moved hW.alike hK, hD.weaken (fun _ _ _ _ => trivial)⟩⟩ rfl rfl hl.1 rfl (lv_room (Nat.le_of_ble_eq_true rfl)) dX5_millis_36 ⟨Nat.le_of_ble_eq_true rfl, Nat.le_of_ble_eq_true rfl⟩) hS (fun q _ h => hF36 q h) hF36 (fun u36 t36 H36 locs ht hvm hw36 hB36 hz36 hk36 hS => ?_)
    subst ht
    obtain ⟨uw, up⟩ := u36
    obtain ⟨hP1, hD1⟩ := hB36
    refine lv_iconst (v := 1) hx hb dX5_millis_39 (by decide) ?_
    exact W.zret (v := 1) hx hb hr rfl (fun t ht hW => ⟨⟨1, (uw, up), rfl, Or.inl ⟨i1, by omega, PM.of hw36 (by rw [g35, g22, g34, g28, g30]) (by rw [g35, g34, g28, g30])⟩, by rw [ht]; exact hP1, hD1⟩, hS.F ht⟩) hS.2.2 dX5_millis_40
  · have k10 := n_eq32.mp c10
    rw [i0] at k10
    refine lv_iconst (v := 0) hx hb dX5_millis_13 (by decide) ?_
    exact W.zret (v := 0) hx hb hr rfl (fun t ht hW => ⟨⟨0, (w, pt), rfl, Or.inr ⟨i0, by omega, rfl⟩, by rw [ht]; exact hP, hD⟩, hS.F ht⟩) hS.2.2 dX5_millis_14
abbrev wsX5_nanos : List Cond := ws_ yX5_nanos cX5_nanos 4 (some .boolean)
set_option maxHeartbeats 4000000 in
set_option maxRecDepth 100000 in
/-- nanoseconds later -/
theorem metX5_nanos (l : Launch) (dC : Nat → ClassId) (dI : Nat → Nat → Nat) (mo mw mp : Nat) (d1 d2 : ClassId) (w pt : Nat → Int64) (i nn : Int32) (j : Nat) (hj : j < 2) (ej : i &&& 1 = nI j) (hp1 : 0 ≤ (pt j).toInt) (hp2 : (pt j).toInt < 1000000000) (sz : Nat) : Met l yX5_nanos wsX5_nanos ({ frames := 2, cells := 0, slots := 0, locals := 52 }) (va_Pc [.ref mo, .int i, .int nn] (MPre (dC, dI) mo mw mp d1 d2 w pt sz)) (va_Qi (fun (r : Int32) (u : (Nat → Int64) × (Nat → Int64)) => (r.toInt = 1 ∧ (-31000000000000000 ≤ (w j).toInt ∧ (w j).toInt ≤ 31000000000000000) ∧ PM w pt u j ((w j).toInt + ((pt j).toInt + nn.toInt) / 1000000000) (((pt j).toInt + nn.toInt) % 1000000000)) ∨ (r.toInt = 0 ∧ ¬ (-31000000000000000 ≤ (w j).toInt ∧ (w j).toInt ≤ 31000000000000000) ∧ u = (w, pt))) (MB (dC, dI) mo mw mp d1 d2 w pt sz) (va_A (MW mo mw mp d1 d2 w pt) sz)) 0 0 (va_A (MW mo mw mp d1 d2 w pt) sz) := by
  refine Met.ofW (cc := cX5_nanos) (maxL := 4) (ret := (some .boolean)) (by decide) rfl ?_
  intro p e s m args below meth c s₁ B hml hv
  obtain ⟨rfl, hsz, hP, hK, hD0⟩ := hv
  have hx := B.exec
  have hb := B.bytes
  have hr := B.returns
  have hts := atoms_spec (ws := wsX5_nanos) B.pre
  have hts : ∀ w ∈ lw_all, w.before _ s = true := fun w h => hts w (List.mem_cons_of_mem _ h)
  have hown : s.vm.findClass RX5 = some m.cls := findClass_of_methodNamed B.named
  have hlocks := B.notSynchronized
  subst hsz
  have hD := hD0.self (sz := s.heap.size)
  have hA : ∀ q : Nat, s.heap.size ≤ q → va_A (MW mo mw mp d1 d2 w pt) s.heap.size q := fun q h => Or.inr h
  have hS : va_S (va_A (MW mo mw mp d1 d2 w pt) s.heap.size) s.heap s.heap [] := va_S.rf
  have hP : va_P (dC, dI) vwCl (MW mo mw mp d1 d2 w pt) s.heap := hP
  have hl := lv_entry ([.ref mo, .int i, .int nn]) (n := 4) (Nat.le_of_ble_eq_true rfl)
  rw [lg_entry_eq]
  generalize (lg_sl ([.ref mo, .int i, .int nn]) ++ List.replicate (4 - (lg_sl ([.ref mo, .int i, .int nn])).length) Slot.unset).toArray = ls at hl ⊢
  have hl : lv_has ls 4 [(0, .ref mo), (1, .int i), (2, .int nn)] := hl
  have b1 := n_lo32 nn
  have b2 := n_hi32 nn
  refine lv_iload_n hx hb dX5_nanos_0 rfl (lv_at hl 1 rfl) ?_
  refine vp_callSi (W.runS (As := [.int i]) (rest := []) ⟨hx, hb, hml, hown, hts⟩ (metX5_index l i) (va_cwS 1 hts (lw_S q278 q279 q14 q280) rfl rfl rfl (by decide +kernel) ⟨Nat.le_of_ble_eq_true rfl, Nat.le_of_ble_eq_true rfl⟩) ⟨bl_0, fun U hU hW => ⟨rfl, trivial⟩⟩ rfl rfl hl.1 rfl (lv_room (Nat.le_of_ble_eq_true rfl)) dX5_nanos_1 ⟨Nat.le_of_ble_eq_true rfl, Nat.le_of_ble_eq_true rfl⟩) (fun r1 hr1 => ?_)
  obtain rfl : r1 = nI j := hr1.trans ej
  refine lv_istore_n (lv' := [(3, .int (nI j)), (0, .ref mo), (1, .int i), (2, .int nn)]) hx hb dX5_nanos_4 rfl hl (by decide) rfl (fun ls hl => ?_)
  refine lv_aload_n hx hb dX5_nanos_5 rfl (lv_at hl 1 rfl) ?_
  refine lv_iload_n hx hb dX5_nanos_6 rfl (lv_at hl 0 rfl) ?_
  refine vp_callSi (W.runV (As := [.int (nI j)]) (rest := []) ⟨hx, hb, hml, hown, hts⟩ (metX5_open l dC dI mo mw mp d1 d2 w pt j hj) (cwV 1 hts (lw_V q298 q300 qs3 q14 q301) rfl rfl rfl (by decide +kernel) ⟨Nat.le_of_ble_eq_true rfl, Nat.le_of_ble_eq_true rfl⟩) ⟨bl_rd, va_recv hK hP (ci := 2) (q0 := 0) rfl rfl, fun U hU hW => ⟨rfl, va_K.moved hW.alike hK, by rw [hU]; exact hP⟩⟩ rfl rfl hl.1 rfl (lv_room (Nat.le_of_ble_eq_true rfl)) dX5_nanos_7 ⟨Nat.le_of_ble_eq_true rfl, Nat.le_of_ble_eq_true rfl⟩) (fun r7 hr7 => ?_)
  have hr7 : (r7.toInt = 1 ∧ -31000000000000000 ≤ (w j).toInt ∧ (w j).toInt ≤ 31000000000000000) ∨ (r7.toInt = 0 ∧ ¬ (-31000000000000000 ≤ (w j).toInt ∧ (w j).toInt ≤ 31000000000000000)) := hr7
  refine lv_if_ne (tgt := 15) hx hb dX5_nanos_10 (by decide) (fun c10 => ?_) (fun c10 => ?_)
  · have k10 := mt n_eq32.mpr c10
    rw [i0] at k10
    refine lv_aload_n hx hb dX5_nanos_15 rfl (lv_at hl 1 rfl) ?_
    refine lv_iload_n hx hb dX5_nanos_16 rfl (lv_at hl 0 rfl) ?_
    refine lv_aload_n hx hb dX5_nanos_17 rfl (lv_at hl 1 rfl) ?_
    refine va_get (D := (dC, dI)) (ci := 2) (v := .ref mw) (C := RX5) (T := TX5) (N := 2) hx hb hts in_X5 hown hK hP 0 rfl rfl 0 (by decide) (hts _ q266) (fun _ h9 => h9) rfl dX5_nanos_18 ?_
    refine lv_iload_n hx hb dX5_nanos_21 rfl (lv_at hl 0 rfl) ?_
    refine va_lald hx hb hK hP 1 0 rfl rfl (n_in hj) dX5_nanos_22 ?_
    refine lv_topl (fun v22 e22 => ?_)
    rw [n_cl hj] at e22
    have g22 := congrArg Int64.toInt e22
    refine lv_aload_n hx hb dX5_nanos_23 rfl (lv_at hl 1 rfl) ?_
    refine va_get (D := (dC, dI)) (ci := 2) (v := .ref mp) (C := RX5) (T := TX5) (N := 2) hx hb hts in_X5 hown hK hP 0 rfl rfl 1 (by decide) (hts _ q267) (fun _ h9 => h9) rfl dX5_nanos_24 ?_
    refine lv_iload_n hx hb dX5_nanos_27 rfl (lv_at hl 0 rfl) ?_
    refine va_lald hx hb hK hP 2 1 rfl rfl (n_in hj) dX5_nanos_28 ?_
    refine lv_topl (fun v28 e28 => ?_)
    rw [n_cl hj] at e28
    have g28 := congrArg Int64.toInt e28
    refine lv_iload_n hx hb dX5_nanos_29 rfl (lv_at hl 3 rfl) ?_
    refine lv_i2l hx hb dX5_nanos_30 rfl ?_
    refine lv_topl (fun v30 e30 => ?_)
    have g30 := n_i2l e30
    refine lv_ladd hx hb dX5_nanos_31 ?_
    refine lv_topl (fun v31 e31 => ?_)
    have g31 := n_add e31 (by omega) (by omega)
    have hF32 := va_free (wc := MW mo mw mp d1 d2 w pt) hD hS hA [0, 1, 2] rfl
    refine va_callv (va_runV (As := [.int (nI j), .long v22, .long v31]) (rest := []) ⟨hx, hb, hml, hown, hts⟩ (metX5_put l dC dI mo mw mp d1 d2 w pt j hj v22 v31 (by omega) (by omega) (by omega) (by omega) s.heap.size) (cwV 3 hts (lw_V q286 q288 qs2 q14 q289) rfl rfl rfl (by decide +kernel) ⟨Nat.le_of_ble_eq_true rfl, Nat.le_of_ble_eq_true rfl⟩) ⟨bl_m, va_recv hK hP (ci := 2) (q0 := 0) rfl rfl, fun U hU hW => ⟨rfl, by rw [hU], by rw [hU]; exact hP, va_K.moved hW.alike hK, hD.weaken (fun _ _ _ _ => trivial)⟩⟩ rfl rfl hl.1 rfl (lv_room (Nat.le_of_ble_eq_true rfl)) dX5_nanos_32 ⟨Nat.le_of_ble_eq_true rfl, Nat.le_of_ble_eq_true rfl⟩) hS (fun q _ h => hF32 q h) hF32 (fun u32 t32 H32 locs ht hvm hw32 hB32 hz32 hk32 hS => ?_)
    subst ht
    obtain ⟨uw, up⟩ := u32
    obtain ⟨hP1, hD1⟩ := hB32
    refine lv_iconst (v := 1) hx hb dX5_nanos_35 (by decide) ?_
    exact W.zret (v := 1) hx hb hr rfl (fun t ht hW => ⟨⟨1, (uw, up), rfl, Or.inl ⟨i1, by omega, PM.of hw32 (by rw [g31, g22, g28, g30]) (by rw [g31, g28, g30])⟩, by rw [ht]; exact hP1, hD1⟩, hS.F ht⟩) hS.2.2 dX5_nanos_36
  · have k10 := n_eq32.mp c10
    rw [i0] at k10
    refine lv_iconst (v := 0) hx hb dX5_nanos_13 (by decide) ?_
    exact W.zret (v := 0) hx hb hr rfl (fun t ht hW => ⟨⟨0, (w, pt), rfl, Or.inr ⟨i0, by omega, rfl⟩, by rw [ht]; exact hP, hD⟩, hS.F ht⟩) hS.2.2 dX5_nanos_14
abbrev wsX5_ofMilli : List Cond := ws_ yX5_ofMilli cX5_ofMilli 10 (none)
set_option maxHeartbeats 4000000 in
set_option maxRecDepth 100000 in
/-- a point by its milliseconds -/
theorem metX5_ofMilli (l : Launch) (dC : Nat → ClassId) (dI : Nat → Nat → Nat) (mo mw mp : Nat) (d1 d2 : ClassId) (w pt : Nat → Int64) (i h l0 : Int32) (j : Nat) (hj : j < 2) (ej : i &&& 1 = nI j) (sz : Nat) : Met l yX5_ofMilli wsX5_ofMilli ({ frames := 2, cells := 0, slots := 0, locals := 52 }) (va_Pc [.ref mo, .int i, .int h, .int l0] (MPre (dC, dI) mo mw mp d1 d2 w pt sz)) (va_Qv (fun (u : (Nat → Int64) × (Nat → Int64)) => PM w pt u j (jn h l0 / 1000) (jn h l0 % 1000 * 1000000)) (MB (dC, dI) mo mw mp d1 d2 w pt sz) (va_A (MW mo mw mp d1 d2 w pt) sz)) 0 0 (va_A (MW mo mw mp d1 d2 w pt) sz) := by
  refine Met.ofW (cc := cX5_ofMilli) (maxL := 10) (ret := (none)) (by decide) rfl ?_
  intro p e s m args below meth c s₁ B hml hv
  obtain ⟨rfl, hsz, hP, hK, hD0⟩ := hv
  have hx := B.exec
  have hb := B.bytes
  have hr := B.returns
  have hts := atoms_spec (ws := wsX5_ofMilli) B.pre
  have hts : ∀ w ∈ lw_all, w.before _ s = true := fun w h => hts w (List.mem_cons_of_mem _ h)
  have hown : s.vm.findClass RX5 = some m.cls := findClass_of_methodNamed B.named
  have hlocks := B.notSynchronized
  subst hsz
  have hD := hD0.self (sz := s.heap.size)
  have hA : ∀ q : Nat, s.heap.size ≤ q → va_A (MW mo mw mp d1 d2 w pt) s.heap.size q := fun q h => Or.inr h
  have hS : va_S (va_A (MW mo mw mp d1 d2 w pt) s.heap.size) s.heap s.heap [] := va_S.rf
  have hP : va_P (dC, dI) vwCl (MW mo mw mp d1 d2 w pt) s.heap := hP
  have hl := lv_entry ([.ref mo, .int i, .int h, .int l0]) (n := 10) (Nat.le_of_ble_eq_true rfl)
  rw [lg_entry_eq]
  generalize (lg_sl ([.ref mo, .int i, .int h, .int l0]) ++ List.replicate (10 - (lg_sl ([.ref mo, .int i, .int h, .int l0])).length) Slot.unset).toArray = ls at hl ⊢
  have hl : lv_has ls 10 [(0, .ref mo), (1, .int i), (2, .int h), (3, .int l0)] := hl
  have nj1 := jn_lo h l0
  have nj2 := jn_hi h l0
  refine lv_iload_n hx hb dX5_ofMilli_0 rfl (lv_at hl 2 rfl) ?_
  refine lv_iload_n hx hb dX5_ofMilli_1 rfl (lv_at hl 3 rfl) ?_
  refine vp_callSl (W.runS (As := [.int h, .int l0]) (rest := []) ⟨hx, hb, hml, hown, hts⟩ (metX5_join l h l0) (va_cwS 2 hts (lw_S q281 q282 q14 q283) rfl rfl rfl (by decide +kernel) ⟨Nat.le_of_ble_eq_true rfl, Nat.le_of_ble_eq_true rfl⟩) ⟨bl_0, fun U hU hW => ⟨rfl, trivial⟩⟩ rfl rfl hl.1 rfl (lv_room (Nat.le_of_ble_eq_true rfl)) dX5_ofMilli_2 ⟨Nat.le_of_ble_eq_true rfl, Nat.le_of_ble_eq_true rfl⟩) (fun r2 hr2 => ?_)
  have hr2 : r2.toInt = jn h l0 := hr2
  refine lv_lstore (lv' := [(4, .long r2), (0, .ref mo), (1, .int i), (2, .int h), (3, .int l0)]) hx hb dX5_ofMilli_5 hl (by decide) rfl (fun ls hl => ?_)
  refine lv_lload hx hb dX5_ofMilli_7 (lv_at hl 0 rfl) ?_
  refine lv_ldc2 (v := 1000) hx hb hown (hts _ q316) dX5_ofMilli_9 ?_
  refine vp_callSl (W.runS (As := [.long r2, .long 1000]) (rest := []) ⟨hx, hb, hml, hown, hts⟩ (metX5_floor l r2 1000 1000 z1000 (Or.inr rfl)) (va_cwS 2 hts (lw_S q291 q292 q14 q293) rfl rfl rfl (by decide +kernel) ⟨Nat.le_of_ble_eq_true rfl, Nat.le_of_ble_eq_true rfl⟩) ⟨bl_0, fun U hU hW => ⟨rfl, trivial⟩⟩ rfl rfl hl.1 rfl (lv_room (Nat.le_of_ble_eq_true rfl)) dX5_ofMilli_12 ⟨Nat.le_of_ble_eq_true rfl, Nat.le_of_ble_eq_true rfl⟩) (fun r12 hr12 => ?_)
  have hr12 : r12.toInt = r2.toInt / 1000 := hr12
  refine lv_lstore (lv' := [(6, .long r12), (4, .long r2), (0, .ref mo), (1, .int i), (2, .int h), (3, .int l0)]) hx hb dX5_ofMilli_15 hl (by decide) rfl (fun ls hl => ?_)
  refine lv_lload hx hb dX5_ofMilli_17 (lv_at hl 1 rfl) ?_
  refine lv_ldc2 (v := 1000) hx hb hown (hts _ q316) dX5_ofMilli_19 ?_
  refine lv_lrem hx hb dX5_ofMilli_22 (by decide) ?_
  refine lv_topl (fun v22 e22 => ?_)
  have g22 := n_rem e22 1000 z1000 (by decide)
  refine lv_lstore (lv' := [(8, .long v22), (6, .long r12), (4, .long r2), (0, .ref mo), (1, .int i), (2, .int h), (3, .int l0)]) hx hb dX5_ofMilli_23 hl (by decide) rfl (fun ls hl => ?_)
  refine lv_lload hx hb dX5_ofMilli_25 (lv_at hl 0 rfl) ?_
  refine lv_lconst (v := 0) hx hb dX5_ofMilli_27 (by decide) ?_
  refine W.lcmp hx hb dX5_ofMilli_28 ?_
  refine lv_if_ge (tgt := 40) hx hb dX5_ofMilli_29 (by decide) (fun c29 => ?_) (fun c29 => ?_)
  · have k29 := n_ge.mp c29
    rw [z0] at k29
    refine lv_aload_n hx hb dX5_ofMilli_40 rfl (lv_at hl 3 rfl) ?_
    refine lv_iload_n hx hb dX5_ofMilli_41 rfl (lv_at hl 4 rfl) ?_
    refine vp_callSi (W.runS (As := [.int i]) (rest := [.ref mo]) ⟨hx, hb, hml, hown, hts⟩ (metX5_index l i) (va_cwS 1 hts (lw_S q278 q279 q14 q280) rfl rfl rfl (by decide +kernel) ⟨Nat.le_of_ble_eq_true rfl, Nat.le_of_ble_eq_true rfl⟩) ⟨bl_0, fun U hU hW => ⟨rfl, trivial⟩⟩ rfl rfl hl.1 rfl (lv_room (Nat.le_of_ble_eq_true rfl)) dX5_ofMilli_42 ⟨Nat.le_of_ble_eq_true rfl, Nat.le_of_ble_eq_true rfl⟩) (fun r42 hr42 => ?_)
    obtain rfl : r42 = nI j := hr42.trans ej
    refine lv_lload hx hb dX5_ofMilli_45 (lv_at hl 1 rfl) ?_
    refine lv_lload hx hb dX5_ofMilli_47 (lv_at hl 0 rfl) ?_
    refine lv_ldc2 (v := 1000000) hx hb hown (hts _ q307) dX5_ofMilli_49 ?_
    refine lv_lmul hx hb dX5_ofMilli_52 ?_
    refine lv_topl (fun v52 e52 => ?_)
    have g52 := n_mul e52 (by rw [zM]; omega) (by rw [zM]; omega)
    rw [zM] at g52
    have hF53 := va_free (wc := MW mo mw mp d1 d2 w pt) hD hS hA [0, 1, 2] rfl
    refine va_callv (va_runV (As := [.int (nI j), .long r12, .long v52]) (rest := []) ⟨hx, hb, hml, hown, hts⟩ (metX5_put l dC dI mo mw mp d1 d2 w pt j hj r12 v52 (by omega) (by omega) (by omega) (by omega) s.heap.size) (cwV 3 hts (lw_V q286 q288 qs2 q14 q289) rfl rfl rfl (by decide +kernel) ⟨Nat.le_of_ble_eq_true rfl, Nat.le_of_ble_eq_true rfl⟩) ⟨bl_m, va_recv hK hP (ci := 2) (q0 := 0) rfl rfl, fun U hU hW => ⟨rfl, by rw [hU], by rw [hU]; exact hP, va_K.moved hW.alike hK, hD.weaken (fun _ _ _ _ => trivial)⟩⟩ rfl rfl hl.1 rfl (lv_room (Nat.le_of_ble_eq_true rfl)) dX5_ofMilli_53 ⟨Nat.le_of_ble_eq_true rfl, Nat.le_of_ble_eq_true rfl⟩) hS (fun q _ h => hF53 q h) hF53 (fun u53 t53 H53 locs ht hvm hw53 hB53 hz53 hk53 hS => ?_)
    subst ht
    obtain ⟨uw, up⟩ := u53
    obtain ⟨hP1, hD1⟩ := hB53
    exact W.vret hx hb hr (fun t ht hW => ⟨⟨(uw, up), rfl, PM.of hw53 (by omega) (by omega), by rw [ht]; exact hP1, hD1⟩, hS.F ht⟩) hS.2.2 dX5_ofMilli_56
  · have k29 := mt n_ge.mpr c29
    rw [z0] at k29
    refine lv_lload hx hb dX5_ofMilli_32 (lv_at hl 0 rfl) ?_
    refine lv_ldc2 (v := 1000) hx hb hown (hts _ q316) dX5_ofMilli_34 ?_
    refine lv_ladd hx hb dX5_ofMilli_37 ?_
    refine lv_topl (fun v37 e37 => ?_)
    have g37 := n_add e37 (by rw [z1000]; omega) (by rw [z1000]; omega)
    rw [z1000] at g37
    refine lv_lstore (lv' := [(8, .long v37), (6, .long r12), (4, .long r2), (0, .ref mo), (1, .int i), (2, .int h), (3, .int l0)]) hx hb dX5_ofMilli_38 hl (by decide) rfl (fun ls hl => ?_)
    refine lv_aload_n hx hb dX5_ofMilli_40 rfl (lv_at hl 3 rfl) ?_
    refine lv_iload_n hx hb dX5_ofMilli_41 rfl (lv_at hl 4 rfl) ?_
    refine vp_callSi (W.runS (As := [.int i]) (rest := [.ref mo]) ⟨hx, hb, hml, hown, hts⟩ (metX5_index l i) (va_cwS 1 hts (lw_S q278 q279 q14 q280) rfl rfl rfl (by decide +kernel) ⟨Nat.le_of_ble_eq_true rfl, Nat.le_of_ble_eq_true rfl⟩) ⟨bl_0, fun U hU hW => ⟨rfl, trivial⟩⟩ rfl rfl hl.1 rfl (lv_room (Nat.le_of_ble_eq_true rfl)) dX5_ofMilli_42 ⟨Nat.le_of_ble_eq_true rfl, Nat.le_of_ble_eq_true rfl⟩) (fun r42 hr42 => ?_)
    obtain rfl : r42 = nI j := hr42.trans ej
    refine lv_lload hx hb dX5_ofMilli_45 (lv_at hl 1 rfl) ?_
    refine lv_lload hx hb dX5_ofMilli_47 (lv_at hl 0 rfl) ?_
    refine lv_ldc2 (v := 1000000) hx hb hown (hts _ q307) dX5_ofMilli_49 ?_
    refine lv_lmul hx hb dX5_ofMilli_52 ?_
    refine lv_topl (fun v52 e52 => ?_)
    have g52 := n_mul e52 (by rw [zM]; omega) (by rw [zM]; omega)
    rw [zM] at g52
    have hF53 := va_free (wc := MW mo mw mp d1 d2 w pt) hD hS hA [0, 1, 2] rfl
    refine va_callv (va_runV (As := [.int (nI j), .long r12, .long v52]) (rest := []) ⟨hx, hb, hml, hown, hts⟩ (metX5_put l dC dI mo mw mp d1 d2 w pt j hj r12 v52 (by omega) (by omega) (by omega) (by omega) s.heap.size) (cwV 3 hts (lw_V q286 q288 qs2 q14 q289) rfl rfl rfl (by decide +kernel) ⟨Nat.le_of_ble_eq_true rfl, Nat.le_of_ble_eq_true rfl⟩) ⟨bl_m, va_recv hK hP (ci := 2) (q0 := 0) rfl rfl, fun U hU hW => ⟨rfl, by rw [hU], by rw [hU]; exact hP, va_K.moved hW.alike hK, hD.weaken (fun _ _ _ _ => trivial)⟩⟩ rfl rfl hl.1 rfl (lv_room (Nat.le_of_ble_eq_true rfl)) dX5_ofMilli_53 ⟨Nat.le_of_ble_eq_true rfl, Nat.le_of_ble_eq_true rfl⟩) hS (fun q _ h => hF53 q h) hF53 (fun u53 t53 H53 locs ht hvm hw53 hB53 hz53 hk53 hS => ?_)
    subst ht
    obtain ⟨uw, up⟩ := u53
    obtain ⟨hP1, hD1⟩ := hB53
    exact W.vret hx hb hr (fun t ht hW => ⟨⟨(uw, up), rfl, PM.of hw53 (by omega) (by omega), by rw [ht]; exact hP1, hD1⟩, hS.F ht⟩) hS.2.2 dX5_ofMilli_56
abbrev wsX5_init : List Cond := ws_ yX5_init cX5_init 1 (none)
set_option maxHeartbeats 4000000 in
set_option maxRecDepth 100000 in
/-- the model at its start: both points at 0 -/
theorem metX5_init (l : Launch) (dC : Nat → ClassId) (dI : Nat → Nat → Nat) (mo sz : Nat) : Met l yX5_init wsX5_init ({ frames := 1, cells := 2, slots := 4, locals := 12 }) (va_Pc [.ref mo] (fun U => U.heap.size = sz ∧ va_P (dC, dI) vwCl [(mo, .inr (2, [.null, .null]))] U.heap ∧ va_K (dC, dI) vwCl [] U ∧ va_D (fun _ => True) [(mo, .inr (2, [.null, .null]))])) (va_Qv (fun _ : Nat × Nat × ClassId × ClassId => True) (fun u t => va_P (dC, dI) vwCl (MW mo u.1 u.2.1 u.2.2.1 u.2.2.2 (fun _ => 0) (fun _ => 0)) t.heap ∧ va_D (va_A [(mo, .inr (2, [.null, .null]))] sz) (MW mo u.1 u.2.1 u.2.2.1 u.2.2.2 (fun _ => 0) (fun _ => 0)) ∧ va_K (dC, dI) vwCl (MT u.2.2.1 u.2.2.2) t) (va_A [(mo, .inr (2, [.null, .null]))] sz)) 2 4 (va_A [(mo, .inr (2, [.null, .null]))] sz) := by
  refine Met.ofW (cc := cX5_init) (maxL := 1) (ret := (none)) (by decide) rfl ?_
  intro p e s m args below meth c s₁ B hml hv
  obtain ⟨rfl, hsz, hP, hK, hD0⟩ := hv
  have hx := B.exec
  have hb := B.bytes
  have hr := B.returns
  have hts := atoms_spec (ws := wsX5_init) B.pre
  have hts : ∀ w ∈ lw_all, w.before _ s = true := fun w h => hts w (List.mem_cons_of_mem _ h)
  have hown : s.vm.findClass RX5 = some m.cls := findClass_of_methodNamed B.named
  have hlocks := B.notSynchronized
  have hin : meth.name = "<init>" := (name_of_methodNamed B.named B.method).1
  subst hsz
  have hD := hD0.self (sz := s.heap.size)
  have hA : ∀ q : Nat, s.heap.size ≤ q → va_A [(mo, .inr (2, [.null, .null]))] s.heap.size q := fun q h => Or.inr h
  have hS : va_S (va_A [(mo, .inr (2, [.null, .null]))] s.heap.size) s.heap s.heap [] := va_S.rf
  have hP : va_P (dC, dI) vwCl [(mo, .inr (2, [.null, .null]))] s.heap := hP
  have hl := lv_entry ([.ref mo]) (n := 1) (Nat.le_of_ble_eq_true rfl)
  rw [lg_entry_eq]
  generalize (lg_sl ([.ref mo]) ++ List.replicate (1 - (lg_sl ([.ref mo])).length) Slot.unset).toArray = ls at hl ⊢
  have hl : lv_has ls 1 [(0, .ref mo)] := hl
  refine lv_aload_n hx hb dX5_init_0 rfl (lv_at hl 0 rfl) ?_
  refine W.objInit hx hb hown (hts _ q265) (hts _ q21) (hts _ q22) rfl (by rw [hml]; exact hl.1) rfl dX5_init_1 (Nat.le_of_ble_eq_true rfl) (Nat.le_of_ble_eq_true rfl) ?_
  refine W.eq (g2 := F0 m 4 ls []) rfl ?_
  refine lv_aload_n hx hb dX5_init_4 rfl (lv_at hl 0 rfl) ?_
  refine lv_iconst (v := 2) hx hb dX5_init_5 (by decide) ?_
  refine va_newa (atype := .long) (ty := .long) (a0 := (2, .inr (.inl (fun _ => 0)))) (N' := 2) hx hb (hts _ q273) rfl hK hP hD hS hA (fun cA => rfl) (by decide) (by decide) (by decide) (Nat.le_of_ble_eq_true rfl) (Nat.le_of_ble_eq_true rfl) dX5_init_6 (fun mw dw H hK hP hD hS => ?_)
  have hP : va_P (dC, dI) vwCl [(mo, .inr (2, [.null, .null])), (mw, .inl (dw, 2, .inr (.inl (fun _ => 0))))] H := hP
  have hD : va_D (va_A [(mo, .inr (2, [.null, .null]))] s.heap.size) [(mo, .inr (2, [.null, .null])), (mw, .inl (dw, 2, .inr (.inl (fun _ => 0))))] := hD
  have hK : va_K (dC, dI) vwCl [(dw, .long)] s := hK
  refine W.widen (k := 1) (n := 2) (Nat.le_of_ble_eq_true rfl) (Nat.le_of_ble_eq_true rfl) ?_
  refine va_putF (D := (dC, dI)) (ci := 2) (v := .ref mw) (ty := .array .long) (C := RX5) (T := TX5) (N := 2) hx hb hts in_X5 tyX5 tyX5_ok nmX5 hown hK hP hD hS 0 rfl rfl 0 (by decide) (hts _ q266) (fun _ h9 => h9) rfl hin rfl (by decide +kernel) rfl rfl (Nat.le_of_ble_eq_true rfl) dX5_init_8 (fun H locs hP hD hS => ?_)
  have hP : va_P (dC, dI) vwCl [(mo, .inr (2, [.ref mw, .null])), (mw, .inl (dw, 2, .inr (.inl (fun _ => 0))))] H := hP
  have hD : va_D (va_A [(mo, .inr (2, [.null, .null]))] s.heap.size) [(mo, .inr (2, [.ref mw, .null])), (mw, .inl (dw, 2, .inr (.inl (fun _ => 0))))] := hD
  refine lv_aload_n hx hb dX5_init_11 rfl (lv_at hl 0 rfl) ?_
  refine lv_iconst (v := 2) hx hb dX5_init_12 (by decide) ?_
  refine va_newa (atype := .long) (ty := .long) (a0 := (2, .inr (.inl (fun _ => 0)))) (N' := 2) hx hb (hts _ q273) rfl hK hP hD hS hA (fun cA => rfl) (by decide) (by decide) (by decide) (Nat.le_of_ble_eq_true rfl) (Nat.le_of_ble_eq_true rfl) dX5_init_13 (fun mp dp H hK hP hD hS => ?_)
  have hP : va_P (dC, dI) vwCl [(mo, .inr (2, [.ref mw, .null])), (mw, .inl (dw, 2, .inr (.inl (fun _ => 0)))), (mp, .inl (dp, 2, .inr (.inl (fun _ => 0))))] H := hP
  have hD : va_D (va_A [(mo, .inr (2, [.null, .null]))] s.heap.size) [(mo, .inr (2, [.ref mw, .null])), (mw, .inl (dw, 2, .inr (.inl (fun _ => 0)))), (mp, .inl (dp, 2, .inr (.inl (fun _ => 0))))] := hD
  have hK : va_K (dC, dI) vwCl [(dw, .long), (dp, .long)] s := hK
  refine W.widen (k := 2) (n := 4) (Nat.le_of_ble_eq_true rfl) (Nat.le_of_ble_eq_true rfl) ?_
  refine va_putF (D := (dC, dI)) (ci := 2) (v := .ref mp) (ty := .array .long) (C := RX5) (T := TX5) (N := 2) hx hb hts in_X5 tyX5 tyX5_ok nmX5 hown hK hP hD hS 0 rfl rfl 1 (by decide) (hts _ q267) (fun _ h9 => h9) rfl hin rfl (by decide +kernel) rfl rfl (Nat.le_of_ble_eq_true rfl) dX5_init_15 (fun H locs hP hD hS => ?_)
  have hP : va_P (dC, dI) vwCl [(mo, .inr (2, [.ref mw, .ref mp])), (mw, .inl (dw, 2, .inr (.inl (fun _ => 0)))), (mp, .inl (dp, 2, .inr (.inl (fun _ => 0))))] H := hP
  have hD : va_D (va_A [(mo, .inr (2, [.null, .null]))] s.heap.size) [(mo, .inr (2, [.ref mw, .ref mp])), (mw, .inl (dw, 2, .inr (.inl (fun _ => 0)))), (mp, .inl (dp, 2, .inr (.inl (fun _ => 0))))] := hD
  exact W.vret hx hb hr (fun t ht hW => ⟨⟨(mw, mp, dw, dp), rfl, trivial, by rw [ht]; exact hP, hD, va_K.moved hW.alike hK⟩, hS.F ht⟩) hS.2.2 dX5_init_18
end
section
/-! THE DESK: an array of two Instants behind one object; the Instants may be one and the same, so they are told beside the list of cells that are apart -/
section MYA
variable {p : Program} {l : Launch} {e : Env} {R : Room} {s : State} {m : MethodId} {args : Array Value} {below : List Frame} {meth : Method} {c : Code} {H : Heap} {locs : List Loc} {cells slots : Nat} {Q : State → Prop}
variable {cc : ByteArray} {pc : Nat} {ls : Array Slot} {rest : List Value} {D : va_G} {cl : List vw_C} {A : Nat → Prop} {a : Nat} {tys : List (ClassId × FieldType)} {ws : va_W} {H0 : Heap}
/-- a reference with a name of its own -/
theorem my_topr {x : Value} {q : Nat} (h : x = .ref q) (k : W p l e R s m args below meth c H locs cells slots Q (F0 m pc ls (.ref q :: rest))) : W p l e R s m args below meth c H locs cells slots Q (F0 m pc ls (x :: rest)) := by
  rw [h]
  exact k
/-- aastore of an object that stands outside the list of cells; what else stands in the heap stays -/
theorem my_astq (hexec : p.tables.exec = Jvm.exec) (hb : c.code = cc) (hK : va_K D cl tys s) (hP : va_P D cl ws H) (hD : va_D A ws) (hS : va_S A H0 H locs) (q0 t0 ci : Nat) {cA : ClassId} {r : vw_C} {n v : Nat} {vs : List Value} {f : Nat → Option Nat} (ha : ws[q0]? = some (a, .inl (cA, n, .inr (.inr (.inr (.inr f)))))) (ht : tys[t0]? = some (cA, .object r.1)) (hv : va_at D cl (v, .inr (ci, vs)) H) (hc : cl[ci]? = some r) {i : Int32} (hin : vp_in i n) (hdg : decode cc pc = .ok (.aastore, 1))
    (kk : ∀ (H1 : Heap) (locs1 : List Loc), (∀ q : Nat, q ≠ a → H1[q]? = H[q]?) → va_P D cl (ws.set q0 (a, .inl (cA, n, .inr (.inr (.inr (.inr (va_up f i.toNatClampNeg (some v)))))))) H1 → va_D A (ws.set q0 (a, .inl (cA, n, .inr (.inr (.inr (.inr (va_up f i.toNatClampNeg (some v)))))))) → va_S A H0 H1 locs1 → W p l e R s m args below meth c H1 locs1 cells slots Q (F0 m (pc + 1) ls rest)) : W p l e R s m args below meth c H locs cells slots Q (F0 m pc ls (.ref v :: .int i :: .ref a :: rest)) := by
  have hlt : i.toNatClampNeg < n := Nat.not_le.mp fun q => hin (Or.inr q)
  have h0 : ¬ i < 0 := fun q => hin (Or.inl q)
  obtain ⟨r', hr', cellV, g1, g2, g3, -⟩ := hv
  have hcls := (hK.1 ci r hc).2
  obtain ⟨kA, comp, k1, k2, k3, -⟩ := (hK.2 t0 _ ht).2
  have hcomp : comp = D.1 ci := Option.some.inj (k3.symm.trans hcls.1)
  subst hcomp
  obtain ⟨kC, hkC, -⟩ := hcls.2
  refine W.aast hexec hb (hP q0 _ ha) (fun q h => by cases h) (fun h => by cases h) k1 k2 rfl hkC ⟨h0, by show _ < (arrV _ _ _).slots.size; rw [arrV_size]; exact hlt⟩ g1 (fun q h => by rw [g3] at h; cases h) (by rw [g2]; exact hkC) (by rw [g2]; exact va_assign hcls) rfl rfl hdg fun H1 e z oq => ?_
  refine kk H1 _ oq (hP.set hD ha ?_ oq) (hD.set ha) (hS.put z oq (hD.2 q0 _ ha))
  show H1[a]? = some (vp_cell _ _)
  rw [e]
  rw [vp_cell_q, vp_cell_q, arrV_store]
  congr 2
  funext q
  by_cases hq : q = i.toNatClampNeg
  · subst hq
    simp [updV, va_up, va_rf]
  · simp [updV, va_up, hq]
/-- putfield of a final field; what else stands in the heap stays -/
theorem my_putF (hexec : p.tables.exec = Jvm.exec) (hb : c.code = cc) {own ref C : String} {T : u_T} {N ci index : Nat} {Ts : List Cond} (hts : ∀ w ∈ Ts, w.before args s = true) (hin : ∀ w ∈ u_ws C T N, w ∈ Ts) (ty0 : Nat → FieldType) (hty : ∀ k, k < N → parseFieldDescriptor (T k).2.2.1 = some (ty0 k)) (hnm : ∀ a, a < N → ∀ b, b < N → a ≠ b → (T a).2.1 ≠ (T b).2.1) (hown : s.vm.findClass own = some m.cls) (hK : va_K D cl tys s) (hP : va_P D cl ws H) (hD : va_D A ws) (hS0 : va_S A H0 H locs) (q0 : Nat) {fs : List Value} (he : ws[q0]? = some (a, .inr (ci, fs))) (hc : cl[ci]? = some (C, T, N)) (k : Nat) (hk : k < N) (hlink : (Cond.fieldLink own index ref (T k).2.1 (T k).2.2.1).before args s = true) (hsame : ∀ x, s.fieldFound? (T k).1 (T k).2.1 (T k).2.2.1 = some x → s.fieldFound? ref (T k).2.1 (T k).2.2.1 = some x) (hfin : (T k).2.2.2 = true) (hin2 : meth.name = "<init>") (hdecl : (T k).1 = own) {ty : FieldType} {v : Value} (hd : parseFieldDescriptor (T k).2.2.1 = some ty) (hn : narrow ty v = v) (hfit : fits ty v = true) (hl : k < fs.length)
    (hdg : decode cc pc = .ok (.putfield index, 3)) (kk : ∀ (H1 : Heap) (locs1 : List Loc), (∀ q : Nat, q ≠ a → H1[q]? = H[q]?) → va_P D cl (ws.set q0 (a, .inr (ci, fs.set k v))) H1 → va_D A (ws.set q0 (a, .inr (ci, fs.set k v))) → va_S A H0 H1 locs1 → W p l e R s m args below meth c H1 locs1 cells slots Q (F0 m (pc + 3) ls rest)) : W p l e R s m args below meth c H locs cells slots Q (F0 m pc ls (v :: .ref a :: rest)) := by
  have hap := va_apart (own := own) hts hin ty0 hty hnm hK hc
  obtain ⟨r, h1, cell, q1, q2, q3, q4⟩ := hP q0 _ he
  have hr : r = (C, T, N) := Option.some.inj (h1.symm.trans hc)
  subst hr
  obtain ⟨hS, hfc, kC, hkC, hkind⟩ := hK.1 ci _ hc
  obtain ⟨cf, kf, fi, f, hi, hsl⟩ := hS k hk
  have hlay := hts _ (hin _ (u_in_lay hk))
  unfold u_lay at hlay
  rw [if_pos hfin] at hlay
  have hst := (u_facts hfc hkC (u_lays hts hin hk) hi).1
  have hcf : m.cls = cf := by
    obtain ⟨_, _, c', _, _, _, -, -, hf', -, -, -, hown2, -⟩ := Cond.laysFinal_spec hlay
    have e1 : c' = cf := by have := hi.symm.trans hf'; simp at this; exact this.1.symm
    rw [hdecl] at hown2
    rw [← e1]; exact Option.some.inj (hown.symm.trans hown2)
  have h6 := u_fits hfc hkC hkind (Or.inr hlay) hi hd hn hfit
  refine W.putFinK hexec hb hown hlink (hsame _ hi) hst hcf hin2 (by rw [q2]; exact h6) q1 q3 (by rw [hsl]; exact k2_hasslot (q4 k hk)) rfl rfl hdg fun H' e1 e2 e3 => ?_
  rw [hsl] at e1 ⊢
  exact kk H' _ e3 (hP.set hD he ⟨_, hc, t_OB.to (V := updV (vp_V fs) k v) ⟨_, e1, q2, q3, t_set q4 hap hk v⟩ (fun j _ => vp_updV_set hl v j)⟩ e3) (hD.set he) (hS0.put e2 e3 (hD.2 q0 _ he))
end MYA
abbrev DW (hd ha : Nat) (dA : ClassId) (q : Nat → Nat) : va_W := [(hd, .inr (0, [.ref ha])), (ha, .inl (dA, 2, .inr (.inr (.inr (.inr (fun i => some (q i)))))))]
abbrev DT (dA : ClassId) : List (ClassId × FieldType) := [(dA, .object RX2)]
/-- the two Instants: where they stand and what they hold -/
def INS (D : va_G) (hd ha : Nat) (q : Nat → Nat) (sv : Nat → Int64) (nv : Nat → Int32) (H : Heap) : Prop := ∀ j, j < 2 → va_at D vwCl (q j, inst (sv j) (nv j)) H ∧ q j ≠ hd ∧ q j ≠ ha
theorem INS.kept {D : va_G} {hd ha : Nat} {q : Nat → Nat} {sv : Nat → Int64} {nv : Nat → Int32} {H H1 : Heap} (h : INS D hd ha q sv nv H) (hk : ∀ x : Nat, x < H.size → x ≠ hd → x ≠ ha → H1[x]? = H[x]?) : INS D hd ha q sv nv H1 := fun j hj => ⟨(h j hj).1.kept (hk _ (h j hj).1.lt (h j hj).2.1 (h j hj).2.2), (h j hj).2⟩
theorem INS.up {D : va_G} {hd ha : Nat} {q : Nat → Nat} {sv : Nat → Int64} {nv : Nat → Int32} {H : Heap} (h : INS D hd ha q sv nv H) (j : Nat) {a : Nat} {x : Int64} {y : Int32} (h0 : va_at D vwCl (a, inst x y) H) (h1 : a ≠ hd) (h2 : a ≠ ha) : INS D hd ha (va_up q j a) (va_up sv j x) (va_up nv j y) H := by
  intro i hi
  by_cases e : i = j
  · subst e
    simp only [va_up, if_pos rfl]
    exact ⟨h0, h1, h2⟩
  · simp only [va_up, if_neg e]
    exact h i hi
theorem up_some (q : Nat → Nat) (j a : Nat) : va_up (fun i => some (q i)) j (some a) = fun i => some (va_up q j a i) := by
  funext i
  by_cases e : i = j
  · simp only [va_up, if_pos e]
  · simp only [va_up, if_neg e]
theorem old_P {D : va_G} {cl : List vw_C} {ws : va_W} {H H1 : Heap} (h : va_P D cl ws H) (hk : ∀ q : Nat, q < H.size → ¬ va_A [] H.size q → H1[q]? = H[q]?) : va_P D cl ws H1 := h.kept (fun k q hq => hk q.1 (h k q hq).lt (fun z => absurd (va_A0 z) (Nat.not_le.mpr (h k q hq).lt)))
theorem old_I {D : va_G} {hd ha : Nat} {q : Nat → Nat} {sv : Nat → Int64} {nv : Nat → Int32} {H H1 : Heap} (h : INS D hd ha q sv nv H) (hk : ∀ q : Nat, q < H.size → ¬ va_A [] H.size q → H1[q]? = H[q]?) : INS D hd ha q sv nv H1 := h.kept (fun x hx _ _ => hk x hx (fun z => absurd (va_A0 z) (Nat.not_le.mpr hx)))
/-- a point's new Instant is none of the desk's own cells -/
theorem ap_new {D : va_G} {ep : Nat} {hd ha : Nat} {dA : ClassId} {q : Nat → Nat} {sv : Nat → Int64} {nv : Nat → Int32} {s : State} {H : Heap} (hE : EPO D ep (va_A (DW hd ha dA q) s.heap.size) s) (hP : va_P D vwCl (DW hd ha dA q) s.heap) (hI : INS D hd ha q sv nv H) {j : Nat} (hj : j < 2) {a : Nat} {ex : List Nat} (h : a = ep ∨ a ∈ ex ∨ s.heap.size ≤ a) (hex : ∀ x ∈ ex, x = q j) : a ≠ hd ∧ a ≠ ha ∧ (a = ep ∨ a = q j ∨ s.heap.size ≤ a) := by
  have l1 : hd < s.heap.size := (hP 0 _ rfl).lt
  have l2 : ha < s.heap.size := (hP 1 _ rfl).lt
  have e1 : ep ≠ hd := fun z => hE.2.2 (z ▸ va_A.in (ws := DW hd ha dA q) (k := 0) (q := (hd, .inr (0, [.ref ha]))) rfl)
  have e2 : ep ≠ ha := fun z => hE.2.2 (z ▸ va_A.in (ws := DW hd ha dA q) (k := 1) (q := (ha, .inl (dA, 2, .inr (.inr (.inr (.inr (fun i => some (q i)))))))) rfl)
  rcases h with h | h | h
  · exact ⟨fun z => e1 (h ▸ z), fun z => e2 (h ▸ z), Or.inl h⟩
  · have h := hex a h
    exact ⟨fun z => (hI j hj).2.1 (h ▸ z), fun z => (hI j hj).2.2 (h ▸ z), Or.inr (Or.inl h)⟩
  · exact ⟨fun z => by omega, fun z => by omega, Or.inr (Or.inr h)⟩
theorem up_at {q : Nat → Nat} {j a ep sz : Nat} (h : a = ep ∨ a = q j ∨ sz ≤ a) : ∀ i, i < 2 → va_up q j a i = ep ∨ va_up q j a i = q i ∨ sz ≤ va_up q j a i := by
  intro i _
  by_cases e : i = j
  · subst e
    simp only [va_up, if_pos rfl]
    exact h
  · simp only [va_up, if_neg e]
    exact Or.inr (Or.inl trivial)
abbrev DU : Type := (Nat → Nat) × (Nat → Int64) × (Nat → Int32)
/-- the point j is now S seconds and N nanos; the other is as it was -/
def PD (sv : Nat → Int64) (nv : Nat → Int32) (u : DU) (j : Nat) (S N : Int) : Prop := (u.2.1 j).toInt = S ∧ (u.2.2 j).toInt = N ∧ ∀ i, i < 2 → i ≠ j → u.2.1 i = sv i ∧ u.2.2 i = nv i
theorem PD.mk {q : Nat → Nat} {sv : Nat → Int64} {nv : Nat → Int32} {j a : Nat} {S N : Int} {x : Int64} {y : Int32} (h1 : x.toInt = S) (h2 : y.toInt = N) : PD sv nv (va_up q j a, va_up sv j x, va_up nv j y) j S N := by
  refine ⟨?_, ?_, fun i _ hi => ⟨?_, ?_⟩⟩
  · show (va_up sv j x j).toInt = S
    simp only [va_up, if_pos rfl]
    exact h1
  · show (va_up nv j y j).toInt = N
    simp only [va_up, if_pos rfl]
    exact h2
  · show va_up sv j x i = sv i
    simp only [va_up, if_neg hi]
  · show va_up nv j y i = nv i
    simp only [va_up, if_neg hi]
abbrev DPre (D : va_G) (hd ha : Nat) (dA : ClassId) (q : Nat → Nat) (sv : Nat → Int64) (nv : Nat → Int32) (ep sz : Nat) (U : State) : Prop := U.heap.size = sz ∧ va_P D vwCl (DW hd ha dA q) U.heap ∧ va_K D vwCl (DT dA) U ∧ va_D (fun _ => True) (DW hd ha dA q) ∧ INS D hd ha q sv nv U.heap ∧ EPO D ep (va_A (DW hd ha dA q) sz) U
theorem bl_d {D : va_G} {hd ha : Nat} {dA : ClassId} {q : Nat → Nat} {sv : Nat → Int64} {nv : Nat → Int32} {ep sz : Nat} {av : List Value} : FrameBlind (va_Pc av (DPre D hd ha dA q sv nv ep sz)) := fun a U g mk q => ⟨q.1, q.2.1, q.2.2.1, va_K.moved (u := U) (U := U.calling g mk a) (Vm.Alike.refl U.vm) q.2.2.2.1, q.2.2.2.2.1, q.2.2.2.2.2.1, q.2.2.2.2.2.2.blind⟩
abbrev DB (D : va_G) (hd ha : Nat) (dA : ClassId) (q : Nat → Nat) (ep sz : Nat) (u : DU) (t : State) : Prop := va_P D vwCl (DW hd ha dA u.1) t.heap ∧ va_D (va_A (DW hd ha dA q) sz) (DW hd ha dA u.1) ∧ INS D hd ha u.1 u.2.1 u.2.2 t.heap ∧ ∀ i, i < 2 → u.1 i = ep ∨ u.1 i = q i ∨ sz ≤ u.1 i
theorem n_bool {r : Int32} (h : r.toInt = 1 ∨ r.toInt = 0) : narrow .boolean (.int r) = .int r := by
  have h2 : r = 1 ∨ r = 0 := h.elim (fun h => Or.inl (Int32.toInt_inj.mp (h.trans i1.symm))) (fun h => Or.inr (Int32.toInt_inj.mp (h.trans i0.symm)))
  rcases h2 with rfl | rfl <;> rfl
theorem arr2 {cA : ClassId} {f g : Nat → Option Nat} (h : ∀ i, i < 2 → f i = g i) : vp_cell cA (2, .inr (.inr (.inr (.inr f)))) = vp_cell cA (2, .inr (.inr (.inr (.inr g)))) := by
  have e : (fun j : Fin 2 => va_rf (f j.val)) = (fun j : Fin 2 => va_rf (g j.val)) := funext fun j => by rw [h j.val j.isLt]
  exact congrArg (fun F : Fin 2 → Value => ({ cls := cA, slots := Array.ofFn F, vm := .none } : Cell)) e
theorem dw_of {D : va_G} {hd ha : Nat} {dA : ClassId} {f : Nat → Option Nat} {q : Nat → Nat} {H : Heap} (hP : va_P D vwCl [(hd, .inr (0, [.ref ha])), (ha, .inl (dA, 2, .inr (.inr (.inr (.inr f)))))] H) (h : ∀ i, i < 2 → f i = some (q i)) : va_P D vwCl (DW hd ha dA q) H := by
  intro k x hx
  match k, hx with
  | 0, hx => exact hP 0 x hx
  | 1, hx =>
    cases hx
    have h1 := hP 1 _ rfl
    show H[ha]? = some (vp_cell dA (2, .inr (.inr (.inr (.inr (fun i => some (q i)))))))
    rw [← arr2 h]
    exact h1
  | k + 2, hx => simp [DW] at hx
theorem ini_at {D : va_G} {cl : List vw_C} {ep hd ha a : Nat} {A : Nat → Prop} {s : State} {H : Heap} {e1 e2 e3 e4 : va_E} (hE : EPO D ep A s) (hD : va_D A [(hd, e1), (ha, e2)]) (hP : va_P D cl [(hd, e3), (ha, e4)] H) (z : s.heap.size ≤ H.size) (h : a = ep ∨ a ∈ ([] : List Nat) ∨ H.size ≤ a) : a ≠ hd ∧ a ≠ ha ∧ (a = ep ∨ s.heap.size ≤ a) := by
  have l1 : hd < H.size := (hP 0 _ rfl).lt
  have l2 : ha < H.size := (hP 1 _ rfl).lt
  have e1 : ep ≠ hd := fun z => hE.2.2 (z ▸ hD.2 0 _ rfl)
  have e2 : ep ≠ ha := fun z => hE.2.2 (z ▸ hD.2 1 _ rfl)
  rcases h with h | h | h
  · exact ⟨fun z => e1 (h ▸ z), fun z => e2 (h ▸ z), Or.inl h⟩
  · cases h
  · exact ⟨fun z => by omega, fun z => by omega, Or.inr (Nat.le_trans z h)⟩
abbrev wsX0_whole : List Cond := ws_ yX0_whole cX0_whole 2 (some .long)
set_option maxHeartbeats 4000000 in
set_option maxRecDepth 100000 in
/-- the seconds -/
theorem metX0_whole (l : Launch) (dC : Nat → ClassId) (dI : Nat → Nat → Nat) (hd ha : Nat) (dA : ClassId) (q : Nat → Nat) (sv : Nat → Int64) (nv : Nat → Int32) (i : Int32) (j : Nat) (hj : j < 2) (ej : i &&& 1 = nI j) : Met l yX0_whole wsX0_whole ({ frames := 1, cells := 0, slots := 0, locals := 20 }) (va_Pc [.ref hd, .int i] (fun U => va_K (dC, dI) vwCl (DT dA) U ∧ va_P (dC, dI) vwCl ([(hd, .inr (0, [.ref ha])), (ha, .inl (dA, 2, .inr (.inr (.inr (.inr (fun i => some (q i))))))), (q j, inst (sv j) (nv j))]) U.heap)) (vp_Sl (fun (r : Int64) => r = sv j)) 0 0 (fun _ => False) := by
  refine Met.ofW (cc := cX0_whole) (maxL := 2) (ret := (some .long)) (by decide) rfl ?_
  intro p e s m args below meth c s₁ B hml hv
  obtain ⟨rfl, hK, hP⟩ := hv
  have hx := B.exec
  have hb := B.bytes
  have hr := B.returns
  have hts := atoms_spec (ws := wsX0_whole) B.pre
  have hts : ∀ w ∈ lw_all, w.before _ s = true := fun w h => hts w (List.mem_cons_of_mem _ h)
  have hown : s.vm.findClass RX0 = some m.cls := findClass_of_methodNamed B.named
  have hlocks := B.notSynchronized
  have hl := lv_entry ([.ref hd, .int i]) (n := 2) (Nat.le_of_ble_eq_true rfl)
  rw [lg_entry_eq]
  generalize (lg_sl ([.ref hd, .int i]) ++ List.replicate (2 - (lg_sl ([.ref hd, .int i])).length) Slot.unset).toArray = ls at hl ⊢
  have hl : lv_has ls 2 [(0, .ref hd), (1, .int i)] := hl
  have hP : va_P (dC, dI) vwCl ([(hd, .inr (0, [.ref ha])), (ha, .inl (dA, 2, .inr (.inr (.inr (.inr (fun i => some (q i))))))), (q j, inst (sv j) (nv j))]) s.heap := hP
  have hPj := hP.sub (ws' := [(q j, inst (sv j) (nv j))]) [2] rfl
  have hK0 := hK.sub (tys' := []) [] rfl
  refine lv_aload_n hx hb dX0_whole_0 rfl (lv_at hl 0 rfl) ?_
  refine va_get (D := (dC, dI)) (ci := 0) (v := .ref ha) (C := RX0) (T := TX0) (N := 1) hx hb hts in_X0 hown hK hP 0 rfl rfl 0 (by decide) (hts _ q145) (fun _ h9 => h9) rfl dX0_whole_1 ?_
  refine lv_iload_n hx hb dX0_whole_4 rfl (lv_at hl 1 rfl) ?_
  refine lv_iconst (v := 1) hx hb dX0_whole_5 (by decide) ?_
  refine lv_iand hx hb dX0_whole_6 ?_
  refine lv_topi (fun v6 e6 => ?_)
  obtain rfl : v6 = nI j := e6.trans ej
  refine va_aldq hx hb hK hP 1 0 rfl rfl (n_in hj) dX0_whole_7 ?_
  refine my_topr (q := q j) (congrArg (fun z => va_rf (some (q z))) (n_cl hj)) ?_
  refine vp_callSl (W.runV (As := []) (rest := []) ⟨hx, hb, hml, hown, hts⟩ (metX2_getEpochSecond l dC dI (q j) (sv j) (nv j)) (cwV 0 hts (lw_V q162 q163 q164 q7 q165) rfl rfl rfl (by decide +kernel) ⟨Nat.le_of_ble_eq_true rfl, Nat.le_of_ble_eq_true rfl⟩) ⟨bl_rd, va_recv hK0 hPj (ci := 1) (q0 := 0) rfl rfl, fun U hU hW => ⟨rfl, va_K.moved hW.alike hK0, by rw [hU]; exact hPj⟩⟩ rfl rfl hl.1 rfl (lv_room (Nat.le_of_ble_eq_true rfl)) dX0_whole_8 ⟨Nat.le_of_ble_eq_true rfl, Nat.le_of_ble_eq_true rfl⟩) (fun r8 hr8 => ?_)
  obtain rfl : r8 = sv j := hr8
  exact W.lret (v := (sv j)) hx hb hr (fun t ht hW => ⟨(sv j), rfl, (show ((sv j) : Int64) = sv j from by rfl), ht⟩) (fun q h => by cases h) dX0_whole_11
abbrev wsX0_nano : List Cond := ws_ yX0_nano cX0_nano 2 (some .int)
set_option maxHeartbeats 4000000 in
set_option maxRecDepth 100000 in
/-- the nanos -/
theorem metX0_nano (l : Launch) (dC : Nat → ClassId) (dI : Nat → Nat → Nat) (hd ha : Nat) (dA : ClassId) (q : Nat → Nat) (sv : Nat → Int64) (nv : Nat → Int32) (i : Int32) (j : Nat) (hj : j < 2) (ej : i &&& 1 = nI j) : Met l yX0_nano wsX0_nano ({ frames := 1, cells := 0, slots := 0, locals := 20 }) (va_Pc [.ref hd, .int i] (fun U => va_K (dC, dI) vwCl (DT dA) U ∧ va_P (dC, dI) vwCl ([(hd, .inr (0, [.ref ha])), (ha, .inl (dA, 2, .inr (.inr (.inr (.inr (fun i => some (q i))))))), (q j, inst (sv j) (nv j))]) U.heap)) (vp_Si (fun (r : Int32) => r = nv j)) 0 0 (fun _ => False) := by
  refine Met.ofW (cc := cX0_nano) (maxL := 2) (ret := (some .int)) (by decide) rfl ?_
  intro p e s m args below meth c s₁ B hml hv
  obtain ⟨rfl, hK, hP⟩ := hv
  have hx := B.exec
  have hb := B.bytes
  have hr := B.returns
  have hts := atoms_spec (ws := wsX0_nano) B.pre
  have hts : ∀ w ∈ lw_all, w.before _ s = true := fun w h => hts w (List.mem_cons_of_mem _ h)
  have hown : s.vm.findClass RX0 = some m.cls := findClass_of_methodNamed B.named
  have hlocks := B.notSynchronized
  have hl := lv_entry ([.ref hd, .int i]) (n := 2) (Nat.le_of_ble_eq_true rfl)
  rw [lg_entry_eq]
  generalize (lg_sl ([.ref hd, .int i]) ++ List.replicate (2 - (lg_sl ([.ref hd, .int i])).length) Slot.unset).toArray = ls at hl ⊢
  have hl : lv_has ls 2 [(0, .ref hd), (1, .int i)] := hl
  have hP : va_P (dC, dI) vwCl ([(hd, .inr (0, [.ref ha])), (ha, .inl (dA, 2, .inr (.inr (.inr (.inr (fun i => some (q i))))))), (q j, inst (sv j) (nv j))]) s.heap := hP
  have hPj := hP.sub (ws' := [(q j, inst (sv j) (nv j))]) [2] rfl
  have hK0 := hK.sub (tys' := []) [] rfl
  refine lv_aload_n hx hb dX0_nano_0 rfl (lv_at hl 0 rfl) ?_
  refine va_get (D := (dC, dI)) (ci := 0) (v := .ref ha) (C := RX0) (T := TX0) (N := 1) hx hb hts in_X0 hown hK hP 0 rfl rfl 0 (by decide) (hts _ q145) (fun _ h9 => h9) rfl dX0_nano_1 ?_
  refine lv_iload_n hx hb dX0_nano_4 rfl (lv_at hl 1 rfl) ?_
  refine lv_iconst (v := 1) hx hb dX0_nano_5 (by decide) ?_
  refine lv_iand hx hb dX0_nano_6 ?_
  refine lv_topi (fun v6 e6 => ?_)
  obtain rfl : v6 = nI j := e6.trans ej
  refine va_aldq hx hb hK hP 1 0 rfl rfl (n_in hj) dX0_nano_7 ?_
  refine my_topr (q := q j) (congrArg (fun z => va_rf (some (q z))) (n_cl hj)) ?_
  refine vp_callSi (W.runV (As := []) (rest := []) ⟨hx, hb, hml, hown, hts⟩ (metX2_getNano l dC dI (q j) (sv j) (nv j)) (cwV 0 hts (lw_V q210 q211 q212 q7 q213) rfl rfl rfl (by decide +kernel) ⟨Nat.le_of_ble_eq_true rfl, Nat.le_of_ble_eq_true rfl⟩) ⟨bl_rd, va_recv hK0 hPj (ci := 1) (q0 := 0) rfl rfl, fun U hU hW => ⟨rfl, va_K.moved hW.alike hK0, by rw [hU]; exact hPj⟩⟩ rfl rfl hl.1 rfl (lv_room (Nat.le_of_ble_eq_true rfl)) dX0_nano_8 ⟨Nat.le_of_ble_eq_true rfl, Nat.le_of_ble_eq_true rfl⟩) (fun r8 hr8 => ?_)
  exact W.iret (v := r8) hx hb hr (fun t ht hW => ⟨r8, rfl, (show r8 = nv j from by exact hr8), ht⟩) (fun q h => by cases h) dX0_nano_11
abbrev wsX0_milli : List Cond := ws_ yX0_milli cX0_milli 4 (some .long)
set_option maxHeartbeats 4000000 in
set_option maxRecDepth 100000 in
/-- milliseconds -/
theorem metX0_milli (l : Launch) (dC : Nat → ClassId) (dI : Nat → Nat → Nat) (hd ha : Nat) (dA : ClassId) (q : Nat → Nat) (sv : Nat → Int64) (nv : Nat → Int32) (i : Int32) (j : Nat) (hj : j < 2) (ej : i &&& 1 = nI j) (hn1 : 0 ≤ (nv j).toInt) (hn2 : (nv j).toInt < 1000000000) : Met l yX0_milli wsX0_milli ({ frames := 2, cells := 0, slots := 0, locals := 47 }) (va_Pc [.ref hd, .int i] (fun U => va_K (dC, dI) vwCl (DT dA) U ∧ va_P (dC, dI) vwCl ([(hd, .inr (0, [.ref ha])), (ha, .inl (dA, 2, .inr (.inr (.inr (.inr (fun i => some (q i))))))), (q j, inst (sv j) (nv j))]) U.heap)) (vp_Sl (fun (r : Int64) => ((-9000000000000000 ≤ (sv j).toInt ∧ (sv j).toInt ≤ 9000000000000000) ∧ r.toInt = (sv j).toInt * 1000 + (nv j).toInt / 1000000) ∨ (¬ (-9000000000000000 ≤ (sv j).toInt ∧ (sv j).toInt ≤ 9000000000000000) ∧ r.toInt = 0))) 0 0 (fun _ => False) := by
  refine Met.ofW (cc := cX0_milli) (maxL := 4) (ret := (some .long)) (by decide) rfl ?_
  intro p e s m args below meth c s₁ B hml hv
  obtain ⟨rfl, hK, hP⟩ := hv
  have hx := B.exec
  have hb := B.bytes
  have hr := B.returns
  have hts := atoms_spec (ws := wsX0_milli) B.pre
  have hts : ∀ w ∈ lw_all, w.before _ s = true := fun w h => hts w (List.mem_cons_of_mem _ h)
  have hown : s.vm.findClass RX0 = some m.cls := findClass_of_methodNamed B.named
  have hlocks := B.notSynchronized
  have hl := lv_entry ([.ref hd, .int i]) (n := 4) (Nat.le_of_ble_eq_true rfl)
  rw [lg_entry_eq]
  generalize (lg_sl ([.ref hd, .int i]) ++ List.replicate (4 - (lg_sl ([.ref hd, .int i])).length) Slot.unset).toArray = ls at hl ⊢
  have hl : lv_has ls 4 [(0, .ref hd), (1, .int i)] := hl
  have hP : va_P (dC, dI) vwCl ([(hd, .inr (0, [.ref ha])), (ha, .inl (dA, 2, .inr (.inr (.inr (.inr (fun i => some (q i))))))), (q j, inst (sv j) (nv j))]) s.heap := hP
  have hPj := hP.sub (ws' := [(q j, inst (sv j) (nv j))]) [2] rfl
  have hK0 := hK.sub (tys' := []) [] rfl
  refine lv_aload_n hx hb dX0_milli_0 rfl (lv_at hl 0 rfl) ?_
  refine va_get (D := (dC, dI)) (ci := 0) (v := .ref ha) (C := RX0) (T := TX0) (N := 1) hx hb hts in_X0 hown hK hP 0 rfl rfl 0 (by decide) (hts _ q145) (fun _ h9 => h9) rfl dX0_milli_1 ?_
  refine lv_iload_n hx hb dX0_milli_4 rfl (lv_at hl 1 rfl) ?_
  refine lv_iconst (v := 1) hx hb dX0_milli_5 (by decide) ?_
  refine lv_iand hx hb dX0_milli_6 ?_
  refine lv_topi (fun v6 e6 => ?_)
  obtain rfl : v6 = nI j := e6.trans ej
  refine va_aldq hx hb hK hP 1 0 rfl rfl (n_in hj) dX0_milli_7 ?_
  refine my_topr (q := q j) (congrArg (fun z => va_rf (some (q z))) (n_cl hj)) ?_
  refine vp_callSl (W.runV (As := []) (rest := []) ⟨hx, hb, hml, hown, hts⟩ (metX2_getEpochSecond l dC dI (q j) (sv j) (nv j)) (cwV 0 hts (lw_V q162 q163 q164 q7 q165) rfl rfl rfl (by decide +kernel) ⟨Nat.le_of_ble_eq_true rfl, Nat.le_of_ble_eq_true rfl⟩) ⟨bl_rd, va_recv hK0 hPj (ci := 1) (q0 := 0) rfl rfl, fun U hU hW => ⟨rfl, va_K.moved hW.alike hK0, by rw [hU]; exact hPj⟩⟩ rfl rfl hl.1 rfl (lv_room (Nat.le_of_ble_eq_true rfl)) dX0_milli_8 ⟨Nat.le_of_ble_eq_true rfl, Nat.le_of_ble_eq_true rfl⟩) (fun r8 hr8 => ?_)
  obtain rfl : r8 = sv j := hr8
  refine lv_lstore_n (lv' := [(2, .long (sv j)), (0, .ref hd), (1, .int i)]) hx hb dX0_milli_11 rfl hl (by decide) rfl (fun ls hl => ?_)
  refine lv_lload_n hx hb dX0_milli_12 rfl (lv_at hl 0 rfl) ?_
  refine lv_ldc2 (v := 9000000000000000) hx hb hown (hts _ q246) dX0_milli_13 ?_
  refine W.lcmp hx hb dX0_milli_16 ?_
  refine lv_if_gt (tgt := 28) hx hb dX0_milli_17 (by decide) (fun c17 => ?_) (fun c17 => ?_)
  · have k17 := n_gt.mp c17
    rw [zF] at k17
    refine lv_lconst (v := 0) hx hb dX0_milli_28 (by decide) ?_
    refine lv_goto (tgt := 43) hx hb dX0_milli_29 (by decide) ?_
    exact W.lret (v := 0) hx hb hr (fun t ht hW => ⟨0, rfl, (show ((-9000000000000000 ≤ (sv j).toInt ∧ (sv j).toInt ≤ 9000000000000000) ∧ (0 : Int64).toInt = (sv j).toInt * 1000 + (nv j).toInt / 1000000) ∨ (¬ (-9000000000000000 ≤ (sv j).toInt ∧ (sv j).toInt ≤ 9000000000000000) ∧ (0 : Int64).toInt = 0) from by first | exact Or.inl ⟨by omega, hr40⟩ | exact Or.inr ⟨by omega, z0⟩), ht⟩) (fun q h => by cases h) dX0_milli_43
  · have k17 := mt n_gt.mpr c17
    rw [zF] at k17
    refine lv_lload_n hx hb dX0_milli_20 rfl (lv_at hl 0 rfl) ?_
    refine lv_ldc2 (v := (-9000000000000000)) hx hb hown (hts _ q247) dX0_milli_21 ?_
    refine W.lcmp hx hb dX0_milli_24 ?_
    refine lv_if_ge (tgt := 32) hx hb dX0_milli_25 (by decide) (fun c25 => ?_) (fun c25 => ?_)
    · have k25 := n_ge.mp c25
      rw [zFn] at k25
      refine lv_aload_n hx hb dX0_milli_32 rfl (lv_at hl 1 rfl) ?_
      refine va_get (D := (dC, dI)) (ci := 0) (v := .ref ha) (C := RX0) (T := TX0) (N := 1) hx hb hts in_X0 hown hK hP 0 rfl rfl 0 (by decide) (hts _ q145) (fun _ h9 => h9) rfl dX0_milli_33 ?_
      refine lv_iload_n hx hb dX0_milli_36 rfl (lv_at hl 2 rfl) ?_
      refine lv_iconst (v := 1) hx hb dX0_milli_37 (by decide) ?_
      refine lv_iand hx hb dX0_milli_38 ?_
      refine lv_topi (fun v38 e38 => ?_)
      obtain rfl : v38 = nI j := e38.trans ej
      refine va_aldq hx hb hK hP 1 0 rfl rfl (n_in hj) dX0_milli_39 ?_
      refine my_topr (q := q j) (congrArg (fun z => va_rf (some (q z))) (n_cl hj)) ?_
      refine vp_callSl (W.runV (As := []) (rest := []) ⟨hx, hb, hml, hown, hts⟩ (metX2_toEpochMilli l dC dI (q j) (sv j) (nv j) (by omega) (by omega) hn1 hn2) (cwV 0 hts (lw_V q248 q249 q250 q7 q251) rfl rfl rfl (by decide +kernel) ⟨Nat.le_of_ble_eq_true rfl, Nat.le_of_ble_eq_true rfl⟩) ⟨bl_rd, va_recv hK0 hPj (ci := 1) (q0 := 0) rfl rfl, fun U hU hW => ⟨rfl, va_K.moved hW.alike hK0, by rw [hU]; exact hPj⟩⟩ rfl rfl hl.1 rfl (lv_room (Nat.le_of_ble_eq_true rfl)) dX0_milli_40 ⟨Nat.le_of_ble_eq_true rfl, Nat.le_of_ble_eq_true rfl⟩) (fun r40 hr40 => ?_)
      have hr40 : r40.toInt = (sv j).toInt * 1000 + (nv j).toInt / 1000000 := hr40
      exact W.lret (v := r40) hx hb hr (fun t ht hW => ⟨r40, rfl, (show ((-9000000000000000 ≤ (sv j).toInt ∧ (sv j).toInt ≤ 9000000000000000) ∧ r40.toInt = (sv j).toInt * 1000 + (nv j).toInt / 1000000) ∨ (¬ (-9000000000000000 ≤ (sv j).toInt ∧ (sv j).toInt ≤ 9000000000000000) ∧ r40.toInt = 0) from by first | exact Or.inl ⟨by omega, hr40⟩ | exact Or.inr ⟨by omega, z0⟩), ht⟩) (fun q h => by cases h) dX0_milli_43
    · have k25 := mt n_ge.mpr c25
      rw [zFn] at k25
      refine lv_lconst (v := 0) hx hb dX0_milli_28 (by decide) ?_
      refine lv_goto (tgt := 43) hx hb dX0_milli_29 (by decide) ?_
      exact W.lret (v := 0) hx hb hr (fun t ht hW => ⟨0, rfl, (show ((-9000000000000000 ≤ (sv j).toInt ∧ (sv j).toInt ≤ 9000000000000000) ∧ (0 : Int64).toInt = (sv j).toInt * 1000 + (nv j).toInt / 1000000) ∨ (¬ (-9000000000000000 ≤ (sv j).toInt ∧ (sv j).toInt ≤ 9000000000000000) ∧ (0 : Int64).toInt = 0) from by first | exact Or.inl ⟨by omega, hr40⟩ | exact Or.inr ⟨by omega, z0⟩), ht⟩) (fun q h => by cases h) dX0_milli_43
abbrev wsX0_before : List Cond := ws_ yX0_before cX0_before 1 (some .boolean)
set_option maxHeartbeats 4000000 in
set_option maxRecDepth 100000 in
/-- earlier -/
theorem metX0_before (l : Launch) (dC : Nat → ClassId) (dI : Nat → Nat → Nat) (hd ha : Nat) (dA : ClassId) (q : Nat → Nat) (sv : Nat → Int64) (nv : Nat → Int32) (hn1 : 0 ≤ (nv 0).toInt) (hn2 : (nv 0).toInt < 1000000000) (hm1 : 0 ≤ (nv 1).toInt) (hm2 : (nv 1).toInt < 1000000000) : Met l yX0_before wsX0_before ({ frames := 3, cells := 0, slots := 0, locals := 66 }) (va_Pc [.ref hd] (fun U => va_K (dC, dI) vwCl (DT dA) U ∧ va_P (dC, dI) vwCl ([(hd, .inr (0, [.ref ha])), (ha, .inl (dA, 2, .inr (.inr (.inr (.inr (fun i => some (q i))))))), (q 0, inst (sv 0) (nv 0)), (q 1, inst (sv 1) (nv 1))]) U.heap)) (vp_Si (fun (r : Int32) => (r.toInt = 1 ∧ ((sv 0).toInt < (sv 1).toInt ∨ ((sv 0).toInt = (sv 1).toInt ∧ (nv 0).toInt < (nv 1).toInt))) ∨ (r.toInt = 0 ∧ ¬ ((sv 0).toInt < (sv 1).toInt ∨ ((sv 0).toInt = (sv 1).toInt ∧ (nv 0).toInt < (nv 1).toInt))))) 0 0 (fun _ => False) := by
  refine Met.ofW (cc := cX0_before) (maxL := 1) (ret := (some .boolean)) (by decide) rfl ?_
  intro p e s m args below meth c s₁ B hml hv
  obtain ⟨rfl, hK, hP⟩ := hv
  have hx := B.exec
  have hb := B.bytes
  have hr := B.returns
  have hts := atoms_spec (ws := wsX0_before) B.pre
  have hts : ∀ w ∈ lw_all, w.before _ s = true := fun w h => hts w (List.mem_cons_of_mem _ h)
  have hown : s.vm.findClass RX0 = some m.cls := findClass_of_methodNamed B.named
  have hlocks := B.notSynchronized
  have hl := lv_entry ([.ref hd]) (n := 1) (Nat.le_of_ble_eq_true rfl)
  rw [lg_entry_eq]
  generalize (lg_sl ([.ref hd]) ++ List.replicate (1 - (lg_sl ([.ref hd])).length) Slot.unset).toArray = ls at hl ⊢
  have hl : lv_has ls 1 [(0, .ref hd)] := hl
  have hP : va_P (dC, dI) vwCl ([(hd, .inr (0, [.ref ha])), (ha, .inl (dA, 2, .inr (.inr (.inr (.inr (fun i => some (q i))))))), (q 0, inst (sv 0) (nv 0)), (q 1, inst (sv 1) (nv 1))]) s.heap := hP
  have hPj := hP.sub (ws' := [(q 0, inst (sv 0) (nv 0)), (q 1, inst (sv 1) (nv 1))]) [2, 3] rfl
  have hK0 := hK.sub (tys' := []) [] rfl
  refine lv_aload_n hx hb dX0_before_0 rfl (lv_at hl 0 rfl) ?_
  refine va_get (D := (dC, dI)) (ci := 0) (v := .ref ha) (C := RX0) (T := TX0) (N := 1) hx hb hts in_X0 hown hK hP 0 rfl rfl 0 (by decide) (hts _ q145) (fun _ h9 => h9) rfl dX0_before_1 ?_
  refine lv_iconst (v := 0) hx hb dX0_before_4 (by decide) ?_
  refine va_aldq hx hb hK hP 1 0 rfl rfl n_in0 dX0_before_5 ?_
  refine my_topr (q := q 0) (congrArg (fun z => va_rf (some (q z))) (n_cl0)) ?_
  refine lv_aload_n hx hb dX0_before_6 rfl (lv_at hl 0 rfl) ?_
  refine va_get (D := (dC, dI)) (ci := 0) (v := .ref ha) (C := RX0) (T := TX0) (N := 1) hx hb hts in_X0 hown hK hP 0 rfl rfl 0 (by decide) (hts _ q145) (fun _ h9 => h9) rfl dX0_before_7 ?_
  refine lv_iconst (v := 1) hx hb dX0_before_10 (by decide) ?_
  refine va_aldq hx hb hK hP 1 0 rfl rfl n_in1 dX0_before_11 ?_
  refine my_topr (q := q 1) (congrArg (fun z => va_rf (some (q z))) (n_cl1)) ?_
  refine vp_callSi (W.runV (As := [.ref (q 1)]) (rest := []) ⟨hx, hb, hml, hown, hts⟩ (metX2_isBefore l dC dI (q 0) (q 1) (sv 0) (sv 1) (nv 0) (nv 1) hn1 hn2 hm1 hm2) (cwV 1 hts (lw_V q218 q219 q220 q7 q221) rfl rfl rfl (by decide +kernel) ⟨Nat.le_of_ble_eq_true rfl, Nat.le_of_ble_eq_true rfl⟩) ⟨bl_rd, va_recv hK0 hPj (ci := 1) (q0 := 0) rfl rfl, fun U hU hW => ⟨rfl, va_K.moved hW.alike hK0, by rw [hU]; exact hPj⟩⟩ rfl rfl hl.1 rfl (lv_room (Nat.le_of_ble_eq_true rfl)) dX0_before_12 ⟨Nat.le_of_ble_eq_true rfl, Nat.le_of_ble_eq_true rfl⟩) (fun r12 hr12 => ?_)
  have hr12 : (r12.toInt = 1 ∧ ((sv 0).toInt < (sv 1).toInt ∨ ((sv 0).toInt = (sv 1).toInt ∧ (nv 0).toInt < (nv 1).toInt))) ∨ (r12.toInt = 0 ∧ ¬ ((sv 0).toInt < (sv 1).toInt ∨ ((sv 0).toInt = (sv 1).toInt ∧ (nv 0).toInt < (nv 1).toInt))) := hr12
  exact W.zret (v := r12) hx hb hr (n_bool (hr12.elim (fun h => Or.inl h.1) (fun h => Or.inr h.1))) (fun t ht hW => ⟨r12, rfl, (show (r12.toInt = 1 ∧ ((sv 0).toInt < (sv 1).toInt ∨ ((sv 0).toInt = (sv 1).toInt ∧ (nv 0).toInt < (nv 1).toInt))) ∨ (r12.toInt = 0 ∧ ¬ ((sv 0).toInt < (sv 1).toInt ∨ ((sv 0).toInt = (sv 1).toInt ∧ (nv 0).toInt < (nv 1).toInt))) from by exact hr12), ht⟩) (fun q h => by cases h) dX0_before_15
abbrev wsX0_after : List Cond := ws_ yX0_after cX0_after 1 (some .boolean)
set_option maxHeartbeats 4000000 in
set_option maxRecDepth 100000 in
/-- later -/
theorem metX0_after (l : Launch) (dC : Nat → ClassId) (dI : Nat → Nat → Nat) (hd ha : Nat) (dA : ClassId) (q : Nat → Nat) (sv : Nat → Int64) (nv : Nat → Int32) (hn1 : 0 ≤ (nv 0).toInt) (hn2 : (nv 0).toInt < 1000000000) (hm1 : 0 ≤ (nv 1).toInt) (hm2 : (nv 1).toInt < 1000000000) : Met l yX0_after wsX0_after ({ frames := 3, cells := 0, slots := 0, locals := 66 }) (va_Pc [.ref hd] (fun U => va_K (dC, dI) vwCl (DT dA) U ∧ va_P (dC, dI) vwCl ([(hd, .inr (0, [.ref ha])), (ha, .inl (dA, 2, .inr (.inr (.inr (.inr (fun i => some (q i))))))), (q 0, inst (sv 0) (nv 0)), (q 1, inst (sv 1) (nv 1))]) U.heap)) (vp_Si (fun (r : Int32) => (r.toInt = 1 ∧ ((sv 1).toInt < (sv 0).toInt ∨ ((sv 0).toInt = (sv 1).toInt ∧ (nv 1).toInt < (nv 0).toInt))) ∨ (r.toInt = 0 ∧ ¬ ((sv 1).toInt < (sv 0).toInt ∨ ((sv 0).toInt = (sv 1).toInt ∧ (nv 1).toInt < (nv 0).toInt))))) 0 0 (fun _ => False) := by
  refine Met.ofW (cc := cX0_after) (maxL := 1) (ret := (some .boolean)) (by decide) rfl ?_
  intro p e s m args below meth c s₁ B hml hv
  obtain ⟨rfl, hK, hP⟩ := hv
  have hx := B.exec
  have hb := B.bytes
  have hr := B.returns
  have hts := atoms_spec (ws := wsX0_after) B.pre
  have hts : ∀ w ∈ lw_all, w.before _ s = true := fun w h => hts w (List.mem_cons_of_mem _ h)
  have hown : s.vm.findClass RX0 = some m.cls := findClass_of_methodNamed B.named
  have hlocks := B.notSynchronized
  have hl := lv_entry ([.ref hd]) (n := 1) (Nat.le_of_ble_eq_true rfl)
  rw [lg_entry_eq]
  generalize (lg_sl ([.ref hd]) ++ List.replicate (1 - (lg_sl ([.ref hd])).length) Slot.unset).toArray = ls at hl ⊢
  have hl : lv_has ls 1 [(0, .ref hd)] := hl
  have hP : va_P (dC, dI) vwCl ([(hd, .inr (0, [.ref ha])), (ha, .inl (dA, 2, .inr (.inr (.inr (.inr (fun i => some (q i))))))), (q 0, inst (sv 0) (nv 0)), (q 1, inst (sv 1) (nv 1))]) s.heap := hP
  have hPj := hP.sub (ws' := [(q 0, inst (sv 0) (nv 0)), (q 1, inst (sv 1) (nv 1))]) [2, 3] rfl
  have hK0 := hK.sub (tys' := []) [] rfl
  refine lv_aload_n hx hb dX0_after_0 rfl (lv_at hl 0 rfl) ?_
  refine va_get (D := (dC, dI)) (ci := 0) (v := .ref ha) (C := RX0) (T := TX0) (N := 1) hx hb hts in_X0 hown hK hP 0 rfl rfl 0 (by decide) (hts _ q145) (fun _ h9 => h9) rfl dX0_after_1 ?_
  refine lv_iconst (v := 0) hx hb dX0_after_4 (by decide) ?_
  refine va_aldq hx hb hK hP 1 0 rfl rfl n_in0 dX0_after_5 ?_
  refine my_topr (q := q 0) (congrArg (fun z => va_rf (some (q z))) (n_cl0)) ?_
  refine lv_aload_n hx hb dX0_after_6 rfl (lv_at hl 0 rfl) ?_
  refine va_get (D := (dC, dI)) (ci := 0) (v := .ref ha) (C := RX0) (T := TX0) (N := 1) hx hb hts in_X0 hown hK hP 0 rfl rfl 0 (by decide) (hts _ q145) (fun _ h9 => h9) rfl dX0_after_7 ?_
  refine lv_iconst (v := 1) hx hb dX0_after_10 (by decide) ?_
  refine va_aldq hx hb hK hP 1 0 rfl rfl n_in1 dX0_after_11 ?_
  refine my_topr (q := q 1) (congrArg (fun z => va_rf (some (q z))) (n_cl1)) ?_
  refine vp_callSi (W.runV (As := [.ref (q 1)]) (rest := []) ⟨hx, hb, hml, hown, hts⟩ (metX2_isAfter l dC dI (q 0) (q 1) (sv 0) (sv 1) (nv 0) (nv 1) hn1 hn2 hm1 hm2) (cwV 1 hts (lw_V q233 q234 q235 q7 q236) rfl rfl rfl (by decide +kernel) ⟨Nat.le_of_ble_eq_true rfl, Nat.le_of_ble_eq_true rfl⟩) ⟨bl_rd, va_recv hK0 hPj (ci := 1) (q0 := 0) rfl rfl, fun U hU hW => ⟨rfl, va_K.moved hW.alike hK0, by rw [hU]; exact hPj⟩⟩ rfl rfl hl.1 rfl (lv_room (Nat.le_of_ble_eq_true rfl)) dX0_after_12 ⟨Nat.le_of_ble_eq_true rfl, Nat.le_of_ble_eq_true rfl⟩) (fun r12 hr12 => ?_)
  have hr12 : (r12.toInt = 1 ∧ ((sv 1).toInt < (sv 0).toInt ∨ ((sv 0).toInt = (sv 1).toInt ∧ (nv 1).toInt < (nv 0).toInt))) ∨ (r12.toInt = 0 ∧ ¬ ((sv 1).toInt < (sv 0).toInt ∨ ((sv 0).toInt = (sv 1).toInt ∧ (nv 1).toInt < (nv 0).toInt))) := hr12
  exact W.zret (v := r12) hx hb hr (n_bool (hr12.elim (fun h => Or.inl h.1) (fun h => Or.inr h.1))) (fun t ht hW => ⟨r12, rfl, (show (r12.toInt = 1 ∧ ((sv 1).toInt < (sv 0).toInt ∨ ((sv 0).toInt = (sv 1).toInt ∧ (nv 1).toInt < (nv 0).toInt))) ∨ (r12.toInt = 0 ∧ ¬ ((sv 1).toInt < (sv 0).toInt ∨ ((sv 0).toInt = (sv 1).toInt ∧ (nv 1).toInt < (nv 0).toInt))) from by exact hr12), ht⟩) (fun q h => by cases h) dX0_after_15
abbrev wsX0_order : List Cond := ws_ yX0_order cX0_order 2 (some .int)
set_option maxHeartbeats 4000000 in
set_option maxRecDepth 100000 in
/-- the order of the two points -/
theorem metX0_order (l : Launch) (dC : Nat → ClassId) (dI : Nat → Nat → Nat) (hd ha : Nat) (dA : ClassId) (q : Nat → Nat) (sv : Nat → Int64) (nv : Nat → Int32) (hn1 : 0 ≤ (nv 0).toInt) (hn2 : (nv 0).toInt < 1000000000) (hm1 : 0 ≤ (nv 1).toInt) (hm2 : (nv 1).toInt < 1000000000) : Met l yX0_order wsX0_order ({ frames := 2, cells := 0, slots := 0, locals := 45 }) (va_Pc [.ref hd] (fun U => va_K (dC, dI) vwCl (DT dA) U ∧ va_P (dC, dI) vwCl ([(hd, .inr (0, [.ref ha])), (ha, .inl (dA, 2, .inr (.inr (.inr (.inr (fun i => some (q i))))))), (q 0, inst (sv 0) (nv 0)), (q 1, inst (sv 1) (nv 1))]) U.heap)) (vp_Si (fun (r : Int32) => (r.toInt = -1 ∧ ((sv 0).toInt < (sv 1).toInt ∨ ((sv 0).toInt = (sv 1).toInt ∧ (nv 0).toInt < (nv 1).toInt))) ∨ (r.toInt = 1 ∧ ((sv 1).toInt < (sv 0).toInt ∨ ((sv 0).toInt = (sv 1).toInt ∧ (nv 1).toInt < (nv 0).toInt))) ∨ (r.toInt = 0 ∧ ((sv 0).toInt = (sv 1).toInt ∧ (nv 0).toInt = (nv 1).toInt)))) 0 0 (fun _ => False) := by
  refine Met.ofW (cc := cX0_order) (maxL := 2) (ret := (some .int)) (by decide) rfl ?_
  intro p e s m args below meth c s₁ B hml hv
  obtain ⟨rfl, hK, hP⟩ := hv
  have hx := B.exec
  have hb := B.bytes
  have hr := B.returns
  have hts := atoms_spec (ws := wsX0_order) B.pre
  have hts : ∀ w ∈ lw_all, w.before _ s = true := fun w h => hts w (List.mem_cons_of_mem _ h)
  have hown : s.vm.findClass RX0 = some m.cls := findClass_of_methodNamed B.named
  have hlocks := B.notSynchronized
  have hl := lv_entry ([.ref hd]) (n := 2) (Nat.le_of_ble_eq_true rfl)
  rw [lg_entry_eq]
  generalize (lg_sl ([.ref hd]) ++ List.replicate (2 - (lg_sl ([.ref hd])).length) Slot.unset).toArray = ls at hl ⊢
  have hl : lv_has ls 2 [(0, .ref hd)] := hl
  have hP : va_P (dC, dI) vwCl ([(hd, .inr (0, [.ref ha])), (ha, .inl (dA, 2, .inr (.inr (.inr (.inr (fun i => some (q i))))))), (q 0, inst (sv 0) (nv 0)), (q 1, inst (sv 1) (nv 1))]) s.heap := hP
  have hPj := hP.sub (ws' := [(q 0, inst (sv 0) (nv 0)), (q 1, inst (sv 1) (nv 1))]) [2, 3] rfl
  have hK0 := hK.sub (tys' := []) [] rfl
  refine lv_aload_n hx hb dX0_order_0 rfl (lv_at hl 0 rfl) ?_
  refine va_get (D := (dC, dI)) (ci := 0) (v := .ref ha) (C := RX0) (T := TX0) (N := 1) hx hb hts in_X0 hown hK hP 0 rfl rfl 0 (by decide) (hts _ q145) (fun _ h9 => h9) rfl dX0_order_1 ?_
  refine lv_iconst (v := 0) hx hb dX0_order_4 (by decide) ?_
  refine va_aldq hx hb hK hP 1 0 rfl rfl n_in0 dX0_order_5 ?_
  refine my_topr (q := q 0) (congrArg (fun z => va_rf (some (q z))) (n_cl0)) ?_
  refine lv_aload_n hx hb dX0_order_6 rfl (lv_at hl 0 rfl) ?_
  refine va_get (D := (dC, dI)) (ci := 0) (v := .ref ha) (C := RX0) (T := TX0) (N := 1) hx hb hts in_X0 hown hK hP 0 rfl rfl 0 (by decide) (hts _ q145) (fun _ h9 => h9) rfl dX0_order_7 ?_
  refine lv_iconst (v := 1) hx hb dX0_order_10 (by decide) ?_
  refine va_aldq hx hb hK hP 1 0 rfl rfl n_in1 dX0_order_11 ?_
  refine my_topr (q := q 1) (congrArg (fun z => va_rf (some (q z))) (n_cl1)) ?_
  refine vp_callSi (W.runV (As := [.ref (q 1)]) (rest := []) ⟨hx, hb, hml, hown, hts⟩ (metX2_compareTo l dC dI (q 0) (q 1) (sv 0) (sv 1) (nv 0) (nv 1) hn1 hn2 hm1 hm2) (cwV 1 hts (lw_V q241 q223 q224 q7 q225) rfl rfl rfl (by decide +kernel) ⟨Nat.le_of_ble_eq_true rfl, Nat.le_of_ble_eq_true rfl⟩) ⟨bl_rd, va_recv hK0 hPj (ci := 1) (q0 := 0) rfl rfl, fun U hU hW => ⟨rfl, va_K.moved hW.alike hK0, by rw [hU]; exact hPj⟩⟩ rfl rfl hl.1 rfl (lv_room (Nat.le_of_ble_eq_true rfl)) dX0_order_12 ⟨Nat.le_of_ble_eq_true rfl, Nat.le_of_ble_eq_true rfl⟩) (fun r12 hr12 => ?_)
  obtain ⟨hrl, hrg⟩ := hr12
  refine lv_istore_n (lv' := [(1, .int r12), (0, .ref hd)]) hx hb dX0_order_15 rfl hl (by decide) rfl (fun ls hl => ?_)
  refine lv_iload_n hx hb dX0_order_16 rfl (lv_at hl 0 rfl) ?_
  refine lv_if_ge (tgt := 24) hx hb dX0_order_17 (by decide) (fun c17 => ?_) (fun c17 => ?_)
  · have k17 := n_le32.mp c17
    rw [i0] at k17
    refine lv_iload_n hx hb dX0_order_24 rfl (lv_at hl 0 rfl) ?_
    refine lv_if_le (tgt := 32) hx hb dX0_order_25 (by decide) (fun c25 => ?_) (fun c25 => ?_)
    · have k25 := n_le32.mp c25
      rw [i0] at k25
      refine lv_iconst (v := 0) hx hb dX0_order_32 (by decide) ?_
      exact W.iret (v := 0) hx hb hr (fun t ht hW => ⟨0, rfl, (show ((0 : Int32).toInt = -1 ∧ ((sv 0).toInt < (sv 1).toInt ∨ ((sv 0).toInt = (sv 1).toInt ∧ (nv 0).toInt < (nv 1).toInt))) ∨ ((0 : Int32).toInt = 1 ∧ ((sv 1).toInt < (sv 0).toInt ∨ ((sv 0).toInt = (sv 1).toInt ∧ (nv 1).toInt < (nv 0).toInt))) ∨ ((0 : Int32).toInt = 0 ∧ ((sv 0).toInt = (sv 1).toInt ∧ (nv 0).toInt = (nv 1).toInt)) from by first | exact Or.inl ⟨in1, by omega⟩ | exact Or.inr (Or.inl ⟨i1, by omega⟩) | exact Or.inr (Or.inr ⟨i0, by omega⟩)), ht⟩) (fun q h => by cases h) dX0_order_33
    · have k25 := mt n_le32.mpr c25
      rw [i0] at k25
      refine lv_iconst (v := 1) hx hb dX0_order_28 (by decide) ?_
      refine lv_goto (tgt := 33) hx hb dX0_order_29 (by decide) ?_
      exact W.iret (v := 1) hx hb hr (fun t ht hW => ⟨1, rfl, (show ((1 : Int32).toInt = -1 ∧ ((sv 0).toInt < (sv 1).toInt ∨ ((sv 0).toInt = (sv 1).toInt ∧ (nv 0).toInt < (nv 1).toInt))) ∨ ((1 : Int32).toInt = 1 ∧ ((sv 1).toInt < (sv 0).toInt ∨ ((sv 0).toInt = (sv 1).toInt ∧ (nv 1).toInt < (nv 0).toInt))) ∨ ((1 : Int32).toInt = 0 ∧ ((sv 0).toInt = (sv 1).toInt ∧ (nv 0).toInt = (nv 1).toInt)) from by first | exact Or.inl ⟨in1, by omega⟩ | exact Or.inr (Or.inl ⟨i1, by omega⟩) | exact Or.inr (Or.inr ⟨i0, by omega⟩)), ht⟩) (fun q h => by cases h) dX0_order_33
  · have k17 := mt n_le32.mpr c17
    rw [i0] at k17
    refine lv_iconst (v := -1) hx hb dX0_order_20 (by decide) ?_
    refine lv_goto (tgt := 33) hx hb dX0_order_21 (by decide) ?_
    exact W.iret (v := (-1)) hx hb hr (fun t ht hW => ⟨(-1), rfl, (show (((-1) : Int32).toInt = -1 ∧ ((sv 0).toInt < (sv 1).toInt ∨ ((sv 0).toInt = (sv 1).toInt ∧ (nv 0).toInt < (nv 1).toInt))) ∨ (((-1) : Int32).toInt = 1 ∧ ((sv 1).toInt < (sv 0).toInt ∨ ((sv 0).toInt = (sv 1).toInt ∧ (nv 1).toInt < (nv 0).toInt))) ∨ (((-1) : Int32).toInt = 0 ∧ ((sv 0).toInt = (sv 1).toInt ∧ (nv 0).toInt = (nv 1).toInt)) from by first | exact Or.inl ⟨in1, by omega⟩ | exact Or.inr (Or.inl ⟨i1, by omega⟩) | exact Or.inr (Or.inr ⟨i0, by omega⟩)), ht⟩) (fun q h => by cases h) dX0_order_33
abbrev wsX0_set : List Cond := ws_ yX0_set cX0_set 5 (none)
set_option maxHeartbeats 4000000 in
set_option maxRecDepth 100000 in
/-- a point is set -/
theorem metX0_set (l : Launch) (dC : Nat → ClassId) (dI : Nat → Nat → Nat) (hd ha : Nat) (dA : ClassId) (q : Nat → Nat) (sv : Nat → Int64) (nv : Nat → Int32) (i h l0 nn : Int32) (j : Nat) (hj : j < 2) (ej : i &&& 1 = nI j) (ep sz : Nat) : Met l yX0_set wsX0_set ({ frames := 5, cells := 1, slots := 2, locals := 103 }) (va_Pc [.ref hd, .int i, .int h, .int l0, .int nn] (DPre (dC, dI) hd ha dA q sv nv ep sz)) (va_Qv (fun (u : DU) => PD sv nv u j ((jn h l0).tmod 31000000000000000 + nn.toInt / 1000000000) (nn.toInt % 1000000000)) (DB (dC, dI) hd ha dA q ep sz) (va_A (DW hd ha dA q) sz)) 1 2 (va_A (DW hd ha dA q) sz) := by
  refine Met.ofW (cc := cX0_set) (maxL := 5) (ret := (none)) (by decide) rfl ?_
  intro p e s m args below meth c s₁ B hml hv
  obtain ⟨rfl, hsz, hP, hK, hD0, hI, hE⟩ := hv
  have hx := B.exec
  have hb := B.bytes
  have hr := B.returns
  have hts := atoms_spec (ws := wsX0_set) B.pre
  have hts : ∀ w ∈ lw_all, w.before _ s = true := fun w h => hts w (List.mem_cons_of_mem _ h)
  have hown : s.vm.findClass RX0 = some m.cls := findClass_of_methodNamed B.named
  have hlocks := B.notSynchronized
  subst hsz
  have hD := hD0.self (sz := s.heap.size)
  have hS : va_S (va_A (DW hd ha dA q) s.heap.size) s.heap s.heap [] := va_S.rf
  have hP : va_P (dC, dI) vwCl (DW hd ha dA q) s.heap := hP
  have hP0 := hP
  have hPj := va_P1 (hI j hj).1
  have hK0 := hK.sub (tys' := []) [] rfl
  have hl := lv_entry ([.ref hd, .int i, .int h, .int l0, .int nn]) (n := 5) (Nat.le_of_ble_eq_true rfl)
  rw [lg_entry_eq]
  generalize (lg_sl ([.ref hd, .int i, .int h, .int l0, .int nn]) ++ List.replicate (5 - (lg_sl ([.ref hd, .int i, .int h, .int l0, .int nn])).length) Slot.unset).toArray = ls at hl ⊢
  have hl : lv_has ls 5 [(0, .ref hd), (1, .int i), (2, .int h), (3, .int l0), (4, .int nn)] := hl
  refine lv_aload_n hx hb dX0_set_0 rfl (lv_at hl 0 rfl) ?_
  refine va_get (D := (dC, dI)) (ci := 0) (v := .ref ha) (C := RX0) (T := TX0) (N := 1) hx hb hts in_X0 hown hK hP 0 rfl rfl 0 (by decide) (hts _ q145) (fun _ h9 => h9) rfl dX0_set_1 ?_
  refine lv_iload_n hx hb dX0_set_4 rfl (lv_at hl 1 rfl) ?_
  refine lv_iconst (v := 1) hx hb dX0_set_5 (by decide) ?_
  refine lv_iand hx hb dX0_set_6 ?_
  refine lv_topi (fun v6 e6 => ?_)
  obtain rfl : v6 = nI j := e6.trans ej
  refine lv_iload_n hx hb dX0_set_7 rfl (lv_at hl 2 rfl) ?_
  refine lv_iload_n hx hb dX0_set_8 rfl (lv_at hl 3 rfl) ?_
  refine vp_callSl (W.runS (As := [.int h, .int l0]) (rest := [.int (nI j), .ref ha]) ⟨hx, hb, hml, hown, hts⟩ (metX0_second l h l0) (va_cwS 2 hts (lw_S q153 q154 q5 q155) rfl rfl rfl (by decide +kernel) ⟨Nat.le_of_ble_eq_true rfl, Nat.le_of_ble_eq_true rfl⟩) ⟨bl_0, fun U hU hW => ⟨rfl, trivial⟩⟩ rfl rfl hl.1 rfl (lv_room (Nat.le_of_ble_eq_true rfl)) dX0_set_9 ⟨Nat.le_of_ble_eq_true rfl, Nat.le_of_ble_eq_true rfl⟩) (fun r9 hr9 => ?_)
  have hr9 : r9.toInt = (jn h l0).tmod 31000000000000000 := hr9
  have t9 := n_tm (a := jn h l0) (b := 31000000000000000)
  refine lv_iload hx hb dX0_set_12 (lv_at hl 4 rfl) ?_
  refine lv_i2l hx hb dX0_set_14 rfl ?_
  refine lv_topl (fun v14 e14 => ?_)
  have g14 := n_i2l e14
  have n1 := n_lo32 nn
  have n2 := n_hi32 nn
  have hF15 : ∀ x, va_A [] s.heap.size x → va_A (DW hd ha dA q) s.heap.size x := fun x h => Or.inr (va_A0 h)
  refine va_callr (va_runS (As := [.long r9, .long v14]) (rest := [.int (nI j), .ref ha]) ⟨hx, hb, hml, hown, hts⟩ (metX2_ofEpochSecond l dC dI ep s.heap.size r9 v14 (by omega) (by omega) (by omega) (by omega)) (va_cwS 2 hts (lw_S q25 q26 q7 q27) rfl rfl rfl (by decide +kernel) ⟨Nat.le_of_ble_eq_true rfl, Nat.le_of_ble_eq_true rfl⟩) ⟨bl_i, fun U hU hW => ⟨rfl, by rw [hU], va_K.moved hW.alike hK0, hE.call hS hF15 hU hW.alike, by rw [hU]; exact va_P0⟩⟩ rfl rfl hl.1 rfl (lv_room (Nat.le_of_ble_eq_true rfl)) dX0_set_15 ⟨Nat.le_of_ble_eq_true rfl, Nat.le_of_ble_eq_true rfl⟩) hS (fun q _ h => hF15 q h) hF15 (fun u15 a15 t15 H15 locs ht hvm hw15 hB15 hz15 hk15 hS => ?_)
  subst ht
  obtain ⟨f1, f2⟩ := u15
  obtain ⟨hw1, hw2⟩ := hw15
  dsimp only at hw1 hw2
  try rw [z0] at hw1
  try rw [z0] at hw2
  obtain ⟨b1, b2, b3⟩ := ap_new hE hP0 hI hj (ex := []) hB15.2 (fun x h => by cases h)
  have hP := old_P hP0 hk15
  have hI := old_I hI hk15
  refine my_astq (ws := DW hd ha dA q) hx hb hK hP hD hS 1 0 1 rfl rfl hB15.1 rfl (n_in hj) dX0_set_18 (fun H locs oq hP hD hS => ?_)
  rw [n_cl hj, up_some] at hP hD
  have hP : va_P (dC, dI) vwCl (DW hd ha dA (va_up q j a15)) H := hP
  have hD : va_D (va_A (DW hd ha dA q) s.heap.size) (DW hd ha dA (va_up q j a15)) := hD
  have hI : INS (dC, dI) hd ha (va_up q j a15) (va_up sv j f1) (va_up nv j f2) H := (hI.kept (fun x _ _ h2 => oq x h2)).up j (hB15.1.kept (oq a15 b2)) b1 b2
  exact W.vret hx hb hr (fun t ht hW => ⟨⟨(va_up q j a15, va_up sv j f1, va_up nv j f2), rfl, PD.mk (by rw [hw1, hr9, g14]) (by rw [hw2, g14]), by rw [ht]; exact hP, hD, by rw [ht]; exact hI, up_at b3⟩, hS.F ht⟩) hS.2.2 dX0_set_19
abbrev wsX0_seconds : List Cond := ws_ yX0_seconds cX0_seconds 5 (some .boolean)
set_option maxHeartbeats 4000000 in
set_option maxRecDepth 100000 in
/-- seconds later -/
theorem metX0_seconds (l : Launch) (dC : Nat → ClassId) (dI : Nat → Nat → Nat) (hd ha : Nat) (dA : ClassId) (q : Nat → Nat) (sv : Nat → Int64) (nv : Nat → Int32) (i nn : Int32) (j : Nat) (hj : j < 2) (ej : i &&& 1 = nI j) (hn1 : 0 ≤ (nv j).toInt) (hn2 : (nv j).toInt < 1000000000) (ep sz : Nat) : Met l yX0_seconds wsX0_seconds ({ frames := 7, cells := 1, slots := 2, locals := 153 }) (va_Pc [.ref hd, .int i, .int nn] (DPre (dC, dI) hd ha dA q sv nv ep sz)) (va_Qi (fun (r : Int32) (u : DU) => (r.toInt = 1 ∧ (-31000000000000000 ≤ (sv j).toInt ∧ (sv j).toInt ≤ 31000000000000000) ∧ PD sv nv u j ((sv j).toInt + nn.toInt) ((nv j).toInt)) ∨ (r.toInt = 0 ∧ ¬ (-31000000000000000 ≤ (sv j).toInt ∧ (sv j).toInt ≤ 31000000000000000) ∧ u = (q, sv, nv))) (DB (dC, dI) hd ha dA q ep sz) (va_A (DW hd ha dA q) sz)) 1 2 (va_A (DW hd ha dA q) sz) := by
  refine Met.ofW (cc := cX0_seconds) (maxL := 5) (ret := (some .boolean)) (by decide) rfl ?_
  intro p e s m args below meth c s₁ B hml hv
  obtain ⟨rfl, hsz, hP, hK, hD0, hI, hE⟩ := hv
  have hx := B.exec
  have hb := B.bytes
  have hr := B.returns
  have hts := atoms_spec (ws := wsX0_seconds) B.pre
  have hts : ∀ w ∈ lw_all, w.before _ s = true := fun w h => hts w (List.mem_cons_of_mem _ h)
  have hown : s.vm.findClass RX0 = some m.cls := findClass_of_methodNamed B.named
  have hlocks := B.notSynchronized
  subst hsz
  have hD := hD0.self (sz := s.heap.size)
  have hS : va_S (va_A (DW hd ha dA q) s.heap.size) s.heap s.heap [] := va_S.rf
  have hP : va_P (dC, dI) vwCl (DW hd ha dA q) s.heap := hP
  have hP0 := hP
  have hPj := va_P1 (hI j hj).1
  have hK0 := hK.sub (tys' := []) [] rfl
  have hl := lv_entry ([.ref hd, .int i, .int nn]) (n := 5) (Nat.le_of_ble_eq_true rfl)
  rw [lg_entry_eq]
  generalize (lg_sl ([.ref hd, .int i, .int nn]) ++ List.replicate (5 - (lg_sl ([.ref hd, .int i, .int nn])).length) Slot.unset).toArray = ls at hl ⊢
  have hl : lv_has ls 5 [(0, .ref hd), (1, .int i), (2, .int nn)] := hl
  have n1 := n_lo32 nn
  have n2 := n_hi32 nn
  refine lv_aload_n hx hb dX0_seconds_0 rfl (lv_at hl 0 rfl) ?_
  refine va_get (D := (dC, dI)) (ci := 0) (v := .ref ha) (C := RX0) (T := TX0) (N := 1) hx hb hts in_X0 hown hK hP 0 rfl rfl 0 (by decide) (hts _ q145) (fun _ h9 => h9) rfl dX0_seconds_1 ?_
  refine lv_iload_n hx hb dX0_seconds_4 rfl (lv_at hl 1 rfl) ?_
  refine lv_iconst (v := 1) hx hb dX0_seconds_5 (by decide) ?_
  refine lv_iand hx hb dX0_seconds_6 ?_
  refine lv_topi (fun v6 e6 => ?_)
  obtain rfl : v6 = nI j := e6.trans ej
  refine va_aldq hx hb hK hP 1 0 rfl rfl (n_in hj) dX0_seconds_7 ?_
  refine my_topr (q := q j) (congrArg (fun z => va_rf (some (q z))) (n_cl hj)) ?_
  refine vp_callSl (W.runV (As := []) (rest := []) ⟨hx, hb, hml, hown, hts⟩ (metX2_getEpochSecond l dC dI (q j) (sv j) (nv j)) (cwV 0 hts (lw_V q162 q163 q164 q7 q165) rfl rfl rfl (by decide +kernel) ⟨Nat.le_of_ble_eq_true rfl, Nat.le_of_ble_eq_true rfl⟩) ⟨bl_rd, va_recv hK0 hPj (ci := 1) (q0 := 0) rfl rfl, fun U hU hW => ⟨rfl, va_K.moved hW.alike hK0, by rw [hU]; exact hPj⟩⟩ rfl rfl hl.1 rfl (lv_room (Nat.le_of_ble_eq_true rfl)) dX0_seconds_8 ⟨Nat.le_of_ble_eq_true rfl, Nat.le_of_ble_eq_true rfl⟩) (fun r8 hr8 => ?_)
  obtain rfl : r8 = sv j := hr8
  refine lv_lstore_n (lv' := [(3, .long (sv j)), (0, .ref hd), (1, .int i), (2, .int nn)]) hx hb dX0_seconds_11 rfl hl (by decide) rfl (fun ls hl => ?_)
  refine lv_lload_n hx hb dX0_seconds_12 rfl (lv_at hl 0 rfl) ?_
  refine lv_ldc2 (v := 31000000000000000) hx hb hown (hts _ q157) dX0_seconds_13 ?_
  refine W.lcmp hx hb dX0_seconds_16 ?_
  refine lv_if_gt (tgt := 28) hx hb dX0_seconds_17 (by decide) (fun c17 => ?_) (fun c17 => ?_)
  · have k17 := n_gt.mp c17
    rw [zE] at k17
    refine lv_iconst (v := 0) hx hb dX0_seconds_28 (by decide) ?_
    refine W.widen (k := 1) (n := 2) (Nat.le_of_ble_eq_true rfl) (Nat.le_of_ble_eq_true rfl) ?_
    exact W.zret (v := 0) hx hb hr rfl (fun t ht hW => ⟨⟨0, (q, sv, nv), rfl, Or.inr ⟨i0, by omega, rfl⟩, by rw [ht]; exact hP, hD, by rw [ht]; exact hI, fun i _ => Or.inr (Or.inl rfl)⟩, hS.F ht⟩) hS.2.2 dX0_seconds_29
  · have k17 := mt n_gt.mpr c17
    rw [zE] at k17
    refine lv_lload_n hx hb dX0_seconds_20 rfl (lv_at hl 0 rfl) ?_
    refine lv_ldc2 (v := (-31000000000000000)) hx hb hown (hts _ q166) dX0_seconds_21 ?_
    refine W.lcmp hx hb dX0_seconds_24 ?_
    refine lv_if_ge (tgt := 30) hx hb dX0_seconds_25 (by decide) (fun c25 => ?_) (fun c25 => ?_)
    · have k25 := n_ge.mp c25
      rw [zEn] at k25
      refine lv_aload_n hx hb dX0_seconds_30 rfl (lv_at hl 1 rfl) ?_
      refine va_get (D := (dC, dI)) (ci := 0) (v := .ref ha) (C := RX0) (T := TX0) (N := 1) hx hb hts in_X0 hown hK hP 0 rfl rfl 0 (by decide) (hts _ q145) (fun _ h9 => h9) rfl dX0_seconds_31 ?_
      refine lv_iload_n hx hb dX0_seconds_34 rfl (lv_at hl 2 rfl) ?_
      refine lv_iconst (v := 1) hx hb dX0_seconds_35 (by decide) ?_
      refine lv_iand hx hb dX0_seconds_36 ?_
      refine lv_topi (fun v36 e36 => ?_)
      obtain rfl : v36 = nI j := e36.trans ej
      refine lv_aload_n hx hb dX0_seconds_37 rfl (lv_at hl 1 rfl) ?_
      refine va_get (D := (dC, dI)) (ci := 0) (v := .ref ha) (C := RX0) (T := TX0) (N := 1) hx hb hts in_X0 hown hK hP 0 rfl rfl 0 (by decide) (hts _ q145) (fun _ h9 => h9) rfl dX0_seconds_38 ?_
      refine lv_iload_n hx hb dX0_seconds_41 rfl (lv_at hl 2 rfl) ?_
      refine lv_iconst (v := 1) hx hb dX0_seconds_42 (by decide) ?_
      refine lv_iand hx hb dX0_seconds_43 ?_
      refine lv_topi (fun v43 e43 => ?_)
      obtain rfl : v43 = nI j := e43.trans ej
      refine va_aldq hx hb hK hP 1 0 rfl rfl (n_in hj) dX0_seconds_44 ?_
      refine my_topr (q := q j) (congrArg (fun z => va_rf (some (q z))) (n_cl hj)) ?_
      refine lv_iload_n hx hb dX0_seconds_45 rfl (lv_at hl 3 rfl) ?_
      refine lv_i2l hx hb dX0_seconds_46 rfl ?_
      refine lv_topl (fun v46 e46 => ?_)
      have g46 := n_i2l e46
      have hF47 : ∀ x, va_A [] s.heap.size x → va_A (DW hd ha dA q) s.heap.size x := fun x h => Or.inr (va_A0 h)
      refine va_callr (va_runV (As := [.long v46]) (rest := [.int (nI j), .ref ha]) ⟨hx, hb, hml, hown, hts⟩ (metX2_plusSeconds l dC dI ep s.heap.size (q j) (sv j) (nv j) v46 (by omega) (by omega) hn1 hn2 (by omega) (by omega)) (cwV 1 hts (lw_V q167 q168 q169 q7 q170) rfl rfl rfl (by decide +kernel) ⟨Nat.le_of_ble_eq_true rfl, Nat.le_of_ble_eq_true rfl⟩) ⟨bl_i, va_recv hK0 hPj (ci := 1) (q0 := 0) rfl rfl, fun U hU hW => ⟨rfl, by rw [hU], va_K.moved hW.alike hK0, hE.call hS hF47 hU hW.alike, by rw [hU]; exact hPj⟩⟩ rfl rfl hl.1 rfl (lv_room (Nat.le_of_ble_eq_true rfl)) dX0_seconds_47 ⟨Nat.le_of_ble_eq_true rfl, Nat.le_of_ble_eq_true rfl⟩) hS (fun q _ h => hF47 q h) hF47 (fun u47 a47 t47 H47 locs ht hvm hw47 hB47 hz47 hk47 hS => ?_)
      subst ht
      obtain ⟨f1, f2⟩ := u47
      obtain ⟨hw1, hw2⟩ := hw47
      dsimp only at hw1 hw2
      try rw [z0] at hw1
      try rw [z0] at hw2
      obtain ⟨b1, b2, b3⟩ := ap_new hE hP0 hI hj (ex := [q j]) hB47.2 (fun x h => List.mem_singleton.mp h)
      have hP := old_P hP0 hk47
      have hI := old_I hI hk47
      refine my_astq (ws := DW hd ha dA q) hx hb hK hP hD hS 1 0 1 rfl rfl hB47.1 rfl (n_in hj) dX0_seconds_50 (fun H locs oq hP hD hS => ?_)
      rw [n_cl hj, up_some] at hP hD
      have hP : va_P (dC, dI) vwCl (DW hd ha dA (va_up q j a47)) H := hP
      have hD : va_D (va_A (DW hd ha dA q) s.heap.size) (DW hd ha dA (va_up q j a47)) := hD
      have hI : INS (dC, dI) hd ha (va_up q j a47) (va_up sv j f1) (va_up nv j f2) H := (hI.kept (fun x _ _ h2 => oq x h2)).up j (hB47.1.kept (oq a47 b2)) b1 b2
      refine lv_iconst (v := 1) hx hb dX0_seconds_51 (by decide) ?_
      exact W.zret (v := 1) hx hb hr rfl (fun t ht hW => ⟨⟨1, (va_up q j a47, va_up sv j f1, va_up nv j f2), rfl, Or.inl ⟨i1, by omega, PD.mk (by omega) (by omega)⟩, by rw [ht]; exact hP, hD, by rw [ht]; exact hI, up_at b3⟩, hS.F ht⟩) hS.2.2 dX0_seconds_52
    · have k25 := mt n_ge.mpr c25
      rw [zEn] at k25
      refine lv_iconst (v := 0) hx hb dX0_seconds_28 (by decide) ?_
      refine W.widen (k := 1) (n := 2) (Nat.le_of_ble_eq_true rfl) (Nat.le_of_ble_eq_true rfl) ?_
      exact W.zret (v := 0) hx hb hr rfl (fun t ht hW => ⟨⟨0, (q, sv, nv), rfl, Or.inr ⟨i0, by omega, rfl⟩, by rw [ht]; exact hP, hD, by rw [ht]; exact hI, fun i _ => Or.inr (Or.inl rfl)⟩, hS.F ht⟩) hS.2.2 dX0_seconds_29
abbrev wsX0_millis : List Cond := ws_ yX0_millis cX0_millis 5 (some .boolean)
set_option maxHeartbeats 4000000 in
set_option maxRecDepth 100000 in
/-- milliseconds later -/
theorem metX0_millis (l : Launch) (dC : Nat → ClassId) (dI : Nat → Nat → Nat) (hd ha : Nat) (dA : ClassId) (q : Nat → Nat) (sv : Nat → Int64) (nv : Nat → Int32) (i nn : Int32) (j : Nat) (hj : j < 2) (ej : i &&& 1 = nI j) (hn1 : 0 ≤ (nv j).toInt) (hn2 : (nv j).toInt < 1000000000) (ep sz : Nat) : Met l yX0_millis wsX0_millis ({ frames := 7, cells := 1, slots := 2, locals := 153 }) (va_Pc [.ref hd, .int i, .int nn] (DPre (dC, dI) hd ha dA q sv nv ep sz)) (va_Qi (fun (r : Int32) (u : DU) => (r.toInt = 1 ∧ (-31000000000000000 ≤ (sv j).toInt ∧ (sv j).toInt ≤ 31000000000000000) ∧ PD sv nv u j ((sv j).toInt + ((nv j).toInt + nn.toInt * 1000000) / 1000000000) (((nv j).toInt + nn.toInt * 1000000) % 1000000000)) ∨ (r.toInt = 0 ∧ ¬ (-31000000000000000 ≤ (sv j).toInt ∧ (sv j).toInt ≤ 31000000000000000) ∧ u = (q, sv, nv))) (DB (dC, dI) hd ha dA q ep sz) (va_A (DW hd ha dA q) sz)) 1 2 (va_A (DW hd ha dA q) sz) := by
  refine Met.ofW (cc := cX0_millis) (maxL := 5) (ret := (some .boolean)) (by decide) rfl ?_
  intro p e s m args below meth c s₁ B hml hv
  obtain ⟨rfl, hsz, hP, hK, hD0, hI, hE⟩ := hv
  have hx := B.exec
  have hb := B.bytes
  have hr := B.returns
  have hts := atoms_spec (ws := wsX0_millis) B.pre
  have hts : ∀ w ∈ lw_all, w.before _ s = true := fun w h => hts w (List.mem_cons_of_mem _ h)
  have hown : s.vm.findClass RX0 = some m.cls := findClass_of_methodNamed B.named
  have hlocks := B.notSynchronized
  subst hsz
  have hD := hD0.self (sz := s.heap.size)
  have hS : va_S (va_A (DW hd ha dA q) s.heap.size) s.heap s.heap [] := va_S.rf
  have hP : va_P (dC, dI) vwCl (DW hd ha dA q) s.heap := hP
  have hP0 := hP
  have hPj := va_P1 (hI j hj).1
  have hK0 := hK.sub (tys' := []) [] rfl
  have hl := lv_entry ([.ref hd, .int i, .int nn]) (n := 5) (Nat.le_of_ble_eq_true rfl)
  rw [lg_entry_eq]
  generalize (lg_sl ([.ref hd, .int i, .int nn]) ++ List.replicate (5 - (lg_sl ([.ref hd, .int i, .int nn])).length) Slot.unset).toArray = ls at hl ⊢
  have hl : lv_has ls 5 [(0, .ref hd), (1, .int i), (2, .int nn)] := hl
  have n1 := n_lo32 nn
  have n2 := n_hi32 nn
  refine lv_aload_n hx hb dX0_millis_0 rfl (lv_at hl 0 rfl) ?_
  refine va_get (D := (dC, dI)) (ci := 0) (v := .ref ha) (C := RX0) (T := TX0) (N := 1) hx hb hts in_X0 hown hK hP 0 rfl rfl 0 (by decide) (hts _ q145) (fun _ h9 => h9) rfl dX0_millis_1 ?_
  refine lv_iload_n hx hb dX0_millis_4 rfl (lv_at hl 1 rfl) ?_
  refine lv_iconst (v := 1) hx hb dX0_millis_5 (by decide) ?_
  refine lv_iand hx hb dX0_millis_6 ?_
  refine lv_topi (fun v6 e6 => ?_)
  obtain rfl : v6 = nI j := e6.trans ej
  refine va_aldq hx hb hK hP 1 0 rfl rfl (n_in hj) dX0_millis_7 ?_
  refine my_topr (q := q j) (congrArg (fun z => va_rf (some (q z))) (n_cl hj)) ?_
  refine vp_callSl (W.runV (As := []) (rest := []) ⟨hx, hb, hml, hown, hts⟩ (metX2_getEpochSecond l dC dI (q j) (sv j) (nv j)) (cwV 0 hts (lw_V q162 q163 q164 q7 q165) rfl rfl rfl (by decide +kernel) ⟨Nat.le_of_ble_eq_true rfl, Nat.le_of_ble_eq_true rfl⟩) ⟨bl_rd, va_recv hK0 hPj (ci := 1) (q0 := 0) rfl rfl, fun U hU hW => ⟨rfl, va_K.moved hW.alike hK0, by rw [hU]; exact hPj⟩⟩ rfl rfl hl.1 rfl (lv_room (Nat.le_of_ble_eq_true rfl)) dX0_millis_8 ⟨Nat.le_of_ble_eq_true rfl, Nat.le_of_ble_eq_true rfl⟩) (fun r8 hr8 => ?_)
  obtain rfl : r8 = sv j := hr8
  refine lv_lstore_n (lv' := [(3, .long (sv j)), (0, .ref hd), (1, .int i), (2, .int nn)]) hx hb dX0_millis_11 rfl hl (by decide) rfl (fun ls hl => ?_)
  refine lv_lload_n hx hb dX0_millis_12 rfl (lv_at hl 0 rfl) ?_
  refine lv_ldc2 (v := 31000000000000000) hx hb hown (hts _ q157) dX0_millis_13 ?_
  refine W.lcmp hx hb dX0_millis_16 ?_
  refine lv_if_gt (tgt := 28) hx hb dX0_millis_17 (by decide) (fun c17 => ?_) (fun c17 => ?_)
  · have k17 := n_gt.mp c17
    rw [zE] at k17
    refine lv_iconst (v := 0) hx hb dX0_millis_28 (by decide) ?_
    refine W.widen (k := 1) (n := 2) (Nat.le_of_ble_eq_true rfl) (Nat.le_of_ble_eq_true rfl) ?_
    exact W.zret (v := 0) hx hb hr rfl (fun t ht hW => ⟨⟨0, (q, sv, nv), rfl, Or.inr ⟨i0, by omega, rfl⟩, by rw [ht]; exact hP, hD, by rw [ht]; exact hI, fun i _ => Or.inr (Or.inl rfl)⟩, hS.F ht⟩) hS.2.2 dX0_millis_29
  · have k17 := mt n_gt.mpr c17
    rw [zE] at k17
    refine lv_lload_n hx hb dX0_millis_20 rfl (lv_at hl 0 rfl) ?_
    refine lv_ldc2 (v := (-31000000000000000)) hx hb hown (hts _ q166) dX0_millis_21 ?_
    refine W.lcmp hx hb dX0_millis_24 ?_
    refine lv_if_ge (tgt := 30) hx hb dX0_millis_25 (by decide) (fun c25 => ?_) (fun c25 => ?_)
    · have k25 := n_ge.mp c25
      rw [zEn] at k25
      refine lv_aload_n hx hb dX0_millis_30 rfl (lv_at hl 1 rfl) ?_
      refine va_get (D := (dC, dI)) (ci := 0) (v := .ref ha) (C := RX0) (T := TX0) (N := 1) hx hb hts in_X0 hown hK hP 0 rfl rfl 0 (by decide) (hts _ q145) (fun _ h9 => h9) rfl dX0_millis_31 ?_
      refine lv_iload_n hx hb dX0_millis_34 rfl (lv_at hl 2 rfl) ?_
      refine lv_iconst (v := 1) hx hb dX0_millis_35 (by decide) ?_
      refine lv_iand hx hb dX0_millis_36 ?_
      refine lv_topi (fun v36 e36 => ?_)
      obtain rfl : v36 = nI j := e36.trans ej
      refine lv_aload_n hx hb dX0_millis_37 rfl (lv_at hl 1 rfl) ?_
      refine va_get (D := (dC, dI)) (ci := 0) (v := .ref ha) (C := RX0) (T := TX0) (N := 1) hx hb hts in_X0 hown hK hP 0 rfl rfl 0 (by decide) (hts _ q145) (fun _ h9 => h9) rfl dX0_millis_38 ?_
      refine lv_iload_n hx hb dX0_millis_41 rfl (lv_at hl 2 rfl) ?_
      refine lv_iconst (v := 1) hx hb dX0_millis_42 (by decide) ?_
      refine lv_iand hx hb dX0_millis_43 ?_
      refine lv_topi (fun v43 e43 => ?_)
      obtain rfl : v43 = nI j := e43.trans ej
      refine va_aldq hx hb hK hP 1 0 rfl rfl (n_in hj) dX0_millis_44 ?_
      refine my_topr (q := q j) (congrArg (fun z => va_rf (some (q z))) (n_cl hj)) ?_
      refine lv_iload_n hx hb dX0_millis_45 rfl (lv_at hl 3 rfl) ?_
      refine lv_i2l hx hb dX0_millis_46 rfl ?_
      refine lv_topl (fun v46 e46 => ?_)
      have g46 := n_i2l e46
      have hF47 : ∀ x, va_A [] s.heap.size x → va_A (DW hd ha dA q) s.heap.size x := fun x h => Or.inr (va_A0 h)
      refine va_callr (va_runV (As := [.long v46]) (rest := [.int (nI j), .ref ha]) ⟨hx, hb, hml, hown, hts⟩ (metX2_plusMillis l dC dI ep s.heap.size (q j) (sv j) (nv j) v46 (by omega) (by omega) hn1 hn2 (by omega) (by omega)) (cwV 1 hts (lw_V q180 q181 q182 q7 q183) rfl rfl rfl (by decide +kernel) ⟨Nat.le_of_ble_eq_true rfl, Nat.le_of_ble_eq_true rfl⟩) ⟨bl_i, va_recv hK0 hPj (ci := 1) (q0 := 0) rfl rfl, fun U hU hW => ⟨rfl, by rw [hU], va_K.moved hW.alike hK0, hE.call hS hF47 hU hW.alike, by rw [hU]; exact hPj⟩⟩ rfl rfl hl.1 rfl (lv_room (Nat.le_of_ble_eq_true rfl)) dX0_millis_47 ⟨Nat.le_of_ble_eq_true rfl, Nat.le_of_ble_eq_true rfl⟩) hS (fun q _ h => hF47 q h) hF47 (fun u47 a47 t47 H47 locs ht hvm hw47 hB47 hz47 hk47 hS => ?_)
      subst ht
      obtain ⟨f1, f2⟩ := u47
      obtain ⟨hw1, hw2⟩ := hw47
      dsimp only at hw1 hw2
      try rw [z0] at hw1
      try rw [z0] at hw2
      obtain ⟨b1, b2, b3⟩ := ap_new hE hP0 hI hj (ex := [q j]) hB47.2 (fun x h => List.mem_singleton.mp h)
      have hP := old_P hP0 hk47
      have hI := old_I hI hk47
      refine my_astq (ws := DW hd ha dA q) hx hb hK hP hD hS 1 0 1 rfl rfl hB47.1 rfl (n_in hj) dX0_millis_50 (fun H locs oq hP hD hS => ?_)
      rw [n_cl hj, up_some] at hP hD
      have hP : va_P (dC, dI) vwCl (DW hd ha dA (va_up q j a47)) H := hP
      have hD : va_D (va_A (DW hd ha dA q) s.heap.size) (DW hd ha dA (va_up q j a47)) := hD
      have hI : INS (dC, dI) hd ha (va_up q j a47) (va_up sv j f1) (va_up nv j f2) H := (hI.kept (fun x _ _ h2 => oq x h2)).up j (hB47.1.kept (oq a47 b2)) b1 b2
      refine lv_iconst (v := 1) hx hb dX0_millis_51 (by decide) ?_
      exact W.zret (v := 1) hx hb hr rfl (fun t ht hW => ⟨⟨1, (va_up q j a47, va_up sv j f1, va_up nv j f2), rfl, Or.inl ⟨i1, by omega, PD.mk (by rw [hw1, g46]) (by rw [hw2, g46])⟩, by rw [ht]; exact hP, hD, by rw [ht]; exact hI, up_at b3⟩, hS.F ht⟩) hS.2.2 dX0_millis_52
    · have k25 := mt n_ge.mpr c25
      rw [zEn] at k25
      refine lv_iconst (v := 0) hx hb dX0_millis_28 (by decide) ?_
      refine W.widen (k := 1) (n := 2) (Nat.le_of_ble_eq_true rfl) (Nat.le_of_ble_eq_true rfl) ?_
      exact W.zret (v := 0) hx hb hr rfl (fun t ht hW => ⟨⟨0, (q, sv, nv), rfl, Or.inr ⟨i0, by omega, rfl⟩, by rw [ht]; exact hP, hD, by rw [ht]; exact hI, fun i _ => Or.inr (Or.inl rfl)⟩, hS.F ht⟩) hS.2.2 dX0_millis_29
abbrev wsX0_nanos : List Cond := ws_ yX0_nanos cX0_nanos 5 (some .boolean)
set_option maxHeartbeats 4000000 in
set_option maxRecDepth 100000 in
/-- nanoseconds later -/
theorem metX0_nanos (l : Launch) (dC : Nat → ClassId) (dI : Nat → Nat → Nat) (hd ha : Nat) (dA : ClassId) (q : Nat → Nat) (sv : Nat → Int64) (nv : Nat → Int32) (i nn : Int32) (j : Nat) (hj : j < 2) (ej : i &&& 1 = nI j) (hn1 : 0 ≤ (nv j).toInt) (hn2 : (nv j).toInt < 1000000000) (ep sz : Nat) : Met l yX0_nanos wsX0_nanos ({ frames := 7, cells := 1, slots := 2, locals := 153 }) (va_Pc [.ref hd, .int i, .int nn] (DPre (dC, dI) hd ha dA q sv nv ep sz)) (va_Qi (fun (r : Int32) (u : DU) => (r.toInt = 1 ∧ (-31000000000000000 ≤ (sv j).toInt ∧ (sv j).toInt ≤ 31000000000000000) ∧ PD sv nv u j ((sv j).toInt + ((nv j).toInt + nn.toInt) / 1000000000) (((nv j).toInt + nn.toInt) % 1000000000)) ∨ (r.toInt = 0 ∧ ¬ (-31000000000000000 ≤ (sv j).toInt ∧ (sv j).toInt ≤ 31000000000000000) ∧ u = (q, sv, nv))) (DB (dC, dI) hd ha dA q ep sz) (va_A (DW hd ha dA q) sz)) 1 2 (va_A (DW hd ha dA q) sz) := by
  refine Met.ofW (cc := cX0_nanos) (maxL := 5) (ret := (some .boolean)) (by decide) rfl ?_
  intro p e s m args below meth c s₁ B hml hv
  obtain ⟨rfl, hsz, hP, hK, hD0, hI, hE⟩ := hv
  have hx := B.exec
  have hb := B.bytes
  have hr := B.returns
  have hts := atoms_spec (ws := wsX0_nanos) B.pre
  have hts : ∀ w ∈ lw_all, w.before _ s = true := fun w h => hts w (List.mem_cons_of_mem _ h)
  have hown : s.vm.findClass RX0 = some m.cls := findClass_of_methodNamed B.named
  have hlocks := B.notSynchronized
  subst hsz
  have hD := hD0.self (sz := s.heap.size)
  have hS : va_S (va_A (DW hd ha dA q) s.heap.size) s.heap s.heap [] := va_S.rf
  have hP : va_P (dC, dI) vwCl (DW hd ha dA q) s.heap := hP
  have hP0 := hP
  have hPj := va_P1 (hI j hj).1
  have hK0 := hK.sub (tys' := []) [] rfl
  have hl := lv_entry ([.ref hd, .int i, .int nn]) (n := 5) (Nat.le_of_ble_eq_true rfl)
  rw [lg_entry_eq]
  generalize (lg_sl ([.ref hd, .int i, .int nn]) ++ List.replicate (5 - (lg_sl ([.ref hd, .int i, .int nn])).length) Slot.unset).toArray = ls at hl ⊢
  have hl : lv_has ls 5 [(0, .ref hd), (1, .int i), (2, .int nn)] := hl
  have n1 := n_lo32 nn
  have n2 := n_hi32 nn
  refine lv_aload_n hx hb dX0_nanos_0 rfl (lv_at hl 0 rfl) ?_
  refine va_get (D := (dC, dI)) (ci := 0) (v := .ref ha) (C := RX0) (T := TX0) (N := 1) hx hb hts in_X0 hown hK hP 0 rfl rfl 0 (by decide) (hts _ q145) (fun _ h9 => h9) rfl dX0_nanos_1 ?_
  refine lv_iload_n hx hb dX0_nanos_4 rfl (lv_at hl 1 rfl) ?_
  refine lv_iconst (v := 1) hx hb dX0_nanos_5 (by decide) ?_
  refine lv_iand hx hb dX0_nanos_6 ?_
  refine lv_topi (fun v6 e6 => ?_)
  obtain rfl : v6 = nI j := e6.trans ej
  refine va_aldq hx hb hK hP 1 0 rfl rfl (n_in hj) dX0_nanos_7 ?_
  refine my_topr (q := q j) (congrArg (fun z => va_rf (some (q z))) (n_cl hj)) ?_
  refine vp_callSl (W.runV (As := []) (rest := []) ⟨hx, hb, hml, hown, hts⟩ (metX2_getEpochSecond l dC dI (q j) (sv j) (nv j)) (cwV 0 hts (lw_V q162 q163 q164 q7 q165) rfl rfl rfl (by decide +kernel) ⟨Nat.le_of_ble_eq_true rfl, Nat.le_of_ble_eq_true rfl⟩) ⟨bl_rd, va_recv hK0 hPj (ci := 1) (q0 := 0) rfl rfl, fun U hU hW => ⟨rfl, va_K.moved hW.alike hK0, by rw [hU]; exact hPj⟩⟩ rfl rfl hl.1 rfl (lv_room (Nat.le_of_ble_eq_true rfl)) dX0_nanos_8 ⟨Nat.le_of_ble_eq_true rfl, Nat.le_of_ble_eq_true rfl⟩) (fun r8 hr8 => ?_)
  obtain rfl : r8 = sv j := hr8
  refine lv_lstore_n (lv' := [(3, .long (sv j)), (0, .ref hd), (1, .int i), (2, .int nn)]) hx hb dX0_nanos_11 rfl hl (by decide) rfl (fun ls hl => ?_)
  refine lv_lload_n hx hb dX0_nanos_12 rfl (lv_at hl 0 rfl) ?_
  refine lv_ldc2 (v := 31000000000000000) hx hb hown (hts _ q157) dX0_nanos_13 ?_
  refine W.lcmp hx hb dX0_nanos_16 ?_
  refine lv_if_gt (tgt := 28) hx hb dX0_nanos_17 (by decide) (fun c17 => ?_) (fun c17 => ?_)
  · have k17 := n_gt.mp c17
    rw [zE] at k17
    refine lv_iconst (v := 0) hx hb dX0_nanos_28 (by decide) ?_
    refine W.widen (k := 1) (n := 2) (Nat.le_of_ble_eq_true rfl) (Nat.le_of_ble_eq_true rfl) ?_
    exact W.zret (v := 0) hx hb hr rfl (fun t ht hW => ⟨⟨0, (q, sv, nv), rfl, Or.inr ⟨i0, by omega, rfl⟩, by rw [ht]; exact hP, hD, by rw [ht]; exact hI, fun i _ => Or.inr (Or.inl rfl)⟩, hS.F ht⟩) hS.2.2 dX0_nanos_29
  · have k17 := mt n_gt.mpr c17
    rw [zE] at k17
    refine lv_lload_n hx hb dX0_nanos_20 rfl (lv_at hl 0 rfl) ?_
    refine lv_ldc2 (v := (-31000000000000000)) hx hb hown (hts _ q166) dX0_nanos_21 ?_
    refine W.lcmp hx hb dX0_nanos_24 ?_
    refine lv_if_ge (tgt := 30) hx hb dX0_nanos_25 (by decide) (fun c25 => ?_) (fun c25 => ?_)
    · have k25 := n_ge.mp c25
      rw [zEn] at k25
      refine lv_aload_n hx hb dX0_nanos_30 rfl (lv_at hl 1 rfl) ?_
      refine va_get (D := (dC, dI)) (ci := 0) (v := .ref ha) (C := RX0) (T := TX0) (N := 1) hx hb hts in_X0 hown hK hP 0 rfl rfl 0 (by decide) (hts _ q145) (fun _ h9 => h9) rfl dX0_nanos_31 ?_
      refine lv_iload_n hx hb dX0_nanos_34 rfl (lv_at hl 2 rfl) ?_
      refine lv_iconst (v := 1) hx hb dX0_nanos_35 (by decide) ?_
      refine lv_iand hx hb dX0_nanos_36 ?_
      refine lv_topi (fun v36 e36 => ?_)
      obtain rfl : v36 = nI j := e36.trans ej
      refine lv_aload_n hx hb dX0_nanos_37 rfl (lv_at hl 1 rfl) ?_
      refine va_get (D := (dC, dI)) (ci := 0) (v := .ref ha) (C := RX0) (T := TX0) (N := 1) hx hb hts in_X0 hown hK hP 0 rfl rfl 0 (by decide) (hts _ q145) (fun _ h9 => h9) rfl dX0_nanos_38 ?_
      refine lv_iload_n hx hb dX0_nanos_41 rfl (lv_at hl 2 rfl) ?_
      refine lv_iconst (v := 1) hx hb dX0_nanos_42 (by decide) ?_
      refine lv_iand hx hb dX0_nanos_43 ?_
      refine lv_topi (fun v43 e43 => ?_)
      obtain rfl : v43 = nI j := e43.trans ej
      refine va_aldq hx hb hK hP 1 0 rfl rfl (n_in hj) dX0_nanos_44 ?_
      refine my_topr (q := q j) (congrArg (fun z => va_rf (some (q z))) (n_cl hj)) ?_
      refine lv_iload_n hx hb dX0_nanos_45 rfl (lv_at hl 3 rfl) ?_
      refine lv_i2l hx hb dX0_nanos_46 rfl ?_
      refine lv_topl (fun v46 e46 => ?_)
      have g46 := n_i2l e46
      have hF47 : ∀ x, va_A [] s.heap.size x → va_A (DW hd ha dA q) s.heap.size x := fun x h => Or.inr (va_A0 h)
      refine va_callr (va_runV (As := [.long v46]) (rest := [.int (nI j), .ref ha]) ⟨hx, hb, hml, hown, hts⟩ (metX2_plusNanos l dC dI ep s.heap.size (q j) (sv j) (nv j) v46 (by omega) (by omega) hn1 hn2 (by omega) (by omega)) (cwV 1 hts (lw_V q190 q191 q192 q7 q193) rfl rfl rfl (by decide +kernel) ⟨Nat.le_of_ble_eq_true rfl, Nat.le_of_ble_eq_true rfl⟩) ⟨bl_i, va_recv hK0 hPj (ci := 1) (q0 := 0) rfl rfl, fun U hU hW => ⟨rfl, by rw [hU], va_K.moved hW.alike hK0, hE.call hS hF47 hU hW.alike, by rw [hU]; exact hPj⟩⟩ rfl rfl hl.1 rfl (lv_room (Nat.le_of_ble_eq_true rfl)) dX0_nanos_47 ⟨Nat.le_of_ble_eq_true rfl, Nat.le_of_ble_eq_true rfl⟩) hS (fun q _ h => hF47 q h) hF47 (fun u47 a47 t47 H47 locs ht hvm hw47 hB47 hz47 hk47 hS => ?_)
      subst ht
      obtain ⟨f1, f2⟩ := u47
      obtain ⟨hw1, hw2⟩ := hw47
      dsimp only at hw1 hw2
      try rw [z0] at hw1
      try rw [z0] at hw2
      obtain ⟨b1, b2, b3⟩ := ap_new hE hP0 hI hj (ex := [q j]) hB47.2 (fun x h => List.mem_singleton.mp h)
      have hP := old_P hP0 hk47
      have hI := old_I hI hk47
      refine my_astq (ws := DW hd ha dA q) hx hb hK hP hD hS 1 0 1 rfl rfl hB47.1 rfl (n_in hj) dX0_nanos_50 (fun H locs oq hP hD hS => ?_)
      rw [n_cl hj, up_some] at hP hD
      have hP : va_P (dC, dI) vwCl (DW hd ha dA (va_up q j a47)) H := hP
      have hD : va_D (va_A (DW hd ha dA q) s.heap.size) (DW hd ha dA (va_up q j a47)) := hD
      have hI : INS (dC, dI) hd ha (va_up q j a47) (va_up sv j f1) (va_up nv j f2) H := (hI.kept (fun x _ _ h2 => oq x h2)).up j (hB47.1.kept (oq a47 b2)) b1 b2
      refine lv_iconst (v := 1) hx hb dX0_nanos_51 (by decide) ?_
      exact W.zret (v := 1) hx hb hr rfl (fun t ht hW => ⟨⟨1, (va_up q j a47, va_up sv j f1, va_up nv j f2), rfl, Or.inl ⟨i1, by omega, PD.mk (by rw [hw1, g46]) (by rw [hw2, g46])⟩, by rw [ht]; exact hP, hD, by rw [ht]; exact hI, up_at b3⟩, hS.F ht⟩) hS.2.2 dX0_nanos_52
    · have k25 := mt n_ge.mpr c25
      rw [zEn] at k25
      refine lv_iconst (v := 0) hx hb dX0_nanos_28 (by decide) ?_
      refine W.widen (k := 1) (n := 2) (Nat.le_of_ble_eq_true rfl) (Nat.le_of_ble_eq_true rfl) ?_
      exact W.zret (v := 0) hx hb hr rfl (fun t ht hW => ⟨⟨0, (q, sv, nv), rfl, Or.inr ⟨i0, by omega, rfl⟩, by rw [ht]; exact hP, hD, by rw [ht]; exact hI, fun i _ => Or.inr (Or.inl rfl)⟩, hS.F ht⟩) hS.2.2 dX0_nanos_29
abbrev wsX0_ofMilli : List Cond := ws_ yX0_ofMilli cX0_ofMilli 4 (none)
set_option maxHeartbeats 4000000 in
set_option maxRecDepth 100000 in
/-- a point by its milliseconds -/
theorem metX0_ofMilli (l : Launch) (dC : Nat → ClassId) (dI : Nat → Nat → Nat) (hd ha : Nat) (dA : ClassId) (q : Nat → Nat) (sv : Nat → Int64) (nv : Nat → Int32) (i h l0 : Int32) (j : Nat) (hj : j < 2) (ej : i &&& 1 = nI j) (ep sz : Nat) : Met l yX0_ofMilli wsX0_ofMilli ({ frames := 5, cells := 1, slots := 2, locals := 101 }) (va_Pc [.ref hd, .int i, .int h, .int l0] (DPre (dC, dI) hd ha dA q sv nv ep sz)) (va_Qv (fun (u : DU) => PD sv nv u j (jn h l0 / 1000) (jn h l0 % 1000 * 1000000)) (DB (dC, dI) hd ha dA q ep sz) (va_A (DW hd ha dA q) sz)) 1 2 (va_A (DW hd ha dA q) sz) := by
  refine Met.ofW (cc := cX0_ofMilli) (maxL := 4) (ret := (none)) (by decide) rfl ?_
  intro p e s m args below meth c s₁ B hml hv
  obtain ⟨rfl, hsz, hP, hK, hD0, hI, hE⟩ := hv
  have hx := B.exec
  have hb := B.bytes
  have hr := B.returns
  have hts := atoms_spec (ws := wsX0_ofMilli) B.pre
  have hts : ∀ w ∈ lw_all, w.before _ s = true := fun w h => hts w (List.mem_cons_of_mem _ h)
  have hown : s.vm.findClass RX0 = some m.cls := findClass_of_methodNamed B.named
  have hlocks := B.notSynchronized
  subst hsz
  have hD := hD0.self (sz := s.heap.size)
  have hS : va_S (va_A (DW hd ha dA q) s.heap.size) s.heap s.heap [] := va_S.rf
  have hP : va_P (dC, dI) vwCl (DW hd ha dA q) s.heap := hP
  have hP0 := hP
  have hPj := va_P1 (hI j hj).1
  have hK0 := hK.sub (tys' := []) [] rfl
  have hl := lv_entry ([.ref hd, .int i, .int h, .int l0]) (n := 4) (Nat.le_of_ble_eq_true rfl)
  rw [lg_entry_eq]
  generalize (lg_sl ([.ref hd, .int i, .int h, .int l0]) ++ List.replicate (4 - (lg_sl ([.ref hd, .int i, .int h, .int l0])).length) Slot.unset).toArray = ls at hl ⊢
  have hl : lv_has ls 4 [(0, .ref hd), (1, .int i), (2, .int h), (3, .int l0)] := hl
  refine lv_aload_n hx hb dX0_ofMilli_0 rfl (lv_at hl 0 rfl) ?_
  refine va_get (D := (dC, dI)) (ci := 0) (v := .ref ha) (C := RX0) (T := TX0) (N := 1) hx hb hts in_X0 hown hK hP 0 rfl rfl 0 (by decide) (hts _ q145) (fun _ h9 => h9) rfl dX0_ofMilli_1 ?_
  refine lv_iload_n hx hb dX0_ofMilli_4 rfl (lv_at hl 1 rfl) ?_
  refine lv_iconst (v := 1) hx hb dX0_ofMilli_5 (by decide) ?_
  refine lv_iand hx hb dX0_ofMilli_6 ?_
  refine lv_topi (fun v6 e6 => ?_)
  obtain rfl : v6 = nI j := e6.trans ej
  refine lv_iload_n hx hb dX0_ofMilli_7 rfl (lv_at hl 2 rfl) ?_
  refine lv_i2l hx hb dX0_ofMilli_8 rfl ?_
  refine lv_topl (fun v8 e8 => ?_)
  refine lv_bipush (v := 32) hx hb dX0_ofMilli_9 (by decide) ?_
  refine lv_lshl hx hb dX0_ofMilli_11 rfl ?_
  refine lv_topl (fun v11 e11 => ?_)
  refine lv_iload_n hx hb dX0_ofMilli_12 rfl (lv_at hl 3 rfl) ?_
  refine lv_i2l hx hb dX0_ofMilli_13 rfl ?_
  refine lv_topl (fun v13 e13 => ?_)
  refine lv_ldc2 (v := 4294967295) hx hb hown (hts _ q156) dX0_ofMilli_14 ?_
  refine lv_land hx hb dX0_ofMilli_17 ?_
  refine lv_topl (fun v17 e17 => ?_)
  refine lv_lor hx hb dX0_ofMilli_18 ?_
  refine lv_topl (fun v18 e18 => ?_)
  have g18 := n_join e8 e11 e13 e17 e18
  have hF19 : ∀ x, va_A [] s.heap.size x → va_A (DW hd ha dA q) s.heap.size x := fun x h => Or.inr (va_A0 h)
  refine va_callr (va_runS (As := [.long v18]) (rest := [.int (nI j), .ref ha]) ⟨hx, hb, hml, hown, hts⟩ (metX2_ofEpochMilli l dC dI ep s.heap.size v18) (va_cwS 1 hts (lw_S q198 q199 q7 q200) rfl rfl rfl (by decide +kernel) ⟨Nat.le_of_ble_eq_true rfl, Nat.le_of_ble_eq_true rfl⟩) ⟨bl_i, fun U hU hW => ⟨rfl, by rw [hU], va_K.moved hW.alike hK0, hE.call hS hF19 hU hW.alike, by rw [hU]; exact va_P0⟩⟩ rfl rfl hl.1 rfl (lv_room (Nat.le_of_ble_eq_true rfl)) dX0_ofMilli_19 ⟨Nat.le_of_ble_eq_true rfl, Nat.le_of_ble_eq_true rfl⟩) hS (fun q _ h => hF19 q h) hF19 (fun u19 a19 t19 H19 locs ht hvm hw19 hB19 hz19 hk19 hS => ?_)
  subst ht
  obtain ⟨f1, f2⟩ := u19
  obtain ⟨hw1, hw2⟩ := hw19
  dsimp only at hw1 hw2
  try rw [z0] at hw1
  try rw [z0] at hw2
  obtain ⟨b1, b2, b3⟩ := ap_new hE hP0 hI hj (ex := []) hB19.2 (fun x h => by cases h)
  have hP := old_P hP0 hk19
  have hI := old_I hI hk19
  refine my_astq (ws := DW hd ha dA q) hx hb hK hP hD hS 1 0 1 rfl rfl hB19.1 rfl (n_in hj) dX0_ofMilli_22 (fun H locs oq hP hD hS => ?_)
  rw [n_cl hj, up_some] at hP hD
  have hP : va_P (dC, dI) vwCl (DW hd ha dA (va_up q j a19)) H := hP
  have hD : va_D (va_A (DW hd ha dA q) s.heap.size) (DW hd ha dA (va_up q j a19)) := hD
  have hI : INS (dC, dI) hd ha (va_up q j a19) (va_up sv j f1) (va_up nv j f2) H := (hI.kept (fun x _ _ h2 => oq x h2)).up j (hB19.1.kept (oq a19 b2)) b1 b2
  exact W.vret hx hb hr (fun t ht hW => ⟨⟨(va_up q j a19, va_up sv j f1, va_up nv j f2), rfl, PD.mk (by rw [hw1, g18]) (by rw [hw2, g18]), by rw [ht]; exact hP, hD, by rw [ht]; exact hI, up_at b3⟩, hS.F ht⟩) hS.2.2 dX0_ofMilli_23
abbrev wsX0_init : List Cond := ws_ yX0_init cX0_init 1 (none)
set_option maxHeartbeats 4000000 in
set_option maxRecDepth 100000 in
/-- the desk at its start: both points at 0 -/
theorem metX0_init (l : Launch) (dC : Nat → ClassId) (dI : Nat → Nat → Nat) (hd ep sz : Nat) : Met l yX0_init wsX0_init ({ frames := 5, cells := 3, slots := 6, locals := 103 }) (va_Pc [.ref hd] (fun U => U.heap.size = sz ∧ va_P (dC, dI) vwCl [(hd, .inr (0, [.null]))] U.heap ∧ va_K (dC, dI) vwCl [] U ∧ va_D (fun _ => True) [(hd, .inr (0, [.null]))] ∧ EPO (dC, dI) ep (va_A [(hd, .inr (0, [.null]))] sz) U ∧ va_AO RX2 U)) (va_Qv (fun u : Nat × ClassId × DU => ∀ i, i < 2 → (u.2.2.2.1 i).toInt = 0 ∧ (u.2.2.2.2 i).toInt = 0) (fun u t => va_P (dC, dI) vwCl (DW hd u.1 u.2.1 u.2.2.1) t.heap ∧ va_D (va_A [(hd, .inr (0, [.null]))] sz) (DW hd u.1 u.2.1 u.2.2.1) ∧ va_K (dC, dI) vwCl (DT u.2.1) t ∧ INS (dC, dI) hd u.1 u.2.2.1 u.2.2.2.1 u.2.2.2.2 t.heap ∧ ∀ i, i < 2 → u.2.2.1 i = ep ∨ sz ≤ u.2.2.1 i) (va_A [(hd, .inr (0, [.null]))] sz)) 3 6 (va_A [(hd, .inr (0, [.null]))] sz) := by
  refine Met.ofW (cc := cX0_init) (maxL := 1) (ret := (none)) (by decide) rfl ?_
  intro p e s m args below meth c s₁ B hml hv
  obtain ⟨rfl, hsz, hP, hK, hD0, hE, hO⟩ := hv
  have hx := B.exec
  have hb := B.bytes
  have hr := B.returns
  have hts := atoms_spec (ws := wsX0_init) B.pre
  have hts : ∀ w ∈ lw_all, w.before _ s = true := fun w h => hts w (List.mem_cons_of_mem _ h)
  have hown : s.vm.findClass RX0 = some m.cls := findClass_of_methodNamed B.named
  have hlocks := B.notSynchronized
  have hin : meth.name = "<init>" := (name_of_methodNamed B.named B.method).1
  subst hsz
  have hD := hD0.self (sz := s.heap.size)
  have hA : ∀ q : Nat, s.heap.size ≤ q → va_A [(hd, .inr (0, [.null]))] s.heap.size q := fun q h => Or.inr h
  have hS : va_S (va_A [(hd, .inr (0, [.null]))] s.heap.size) s.heap s.heap [] := va_S.rf
  have hP : va_P (dC, dI) vwCl [(hd, .inr (0, [.null]))] s.heap := hP
  have hl := lv_entry ([.ref hd]) (n := 1) (Nat.le_of_ble_eq_true rfl)
  rw [lg_entry_eq]
  generalize (lg_sl ([.ref hd]) ++ List.replicate (1 - (lg_sl ([.ref hd])).length) Slot.unset).toArray = ls at hl ⊢
  have hl : lv_has ls 1 [(0, .ref hd)] := hl
  refine lv_aload_n hx hb dX0_init_0 rfl (lv_at hl 0 rfl) ?_
  refine W.objInit hx hb hown (hts _ q20) (hts _ q21) (hts _ q22) rfl (by rw [hml]; exact hl.1) rfl dX0_init_1 (Nat.le_of_ble_eq_true rfl) (Nat.le_of_ble_eq_true rfl) ?_
  refine W.eq (g2 := F0 m 4 ls []) rfl ?_
  refine lv_aload_n hx hb dX0_init_4 rfl (lv_at hl 0 rfl) ?_
  refine lv_iconst (v := 2) hx hb dX0_init_5 (by decide) ?_
  refine va_newq (C := RX2) (N' := 2) hx hb hown (hts _ q23) hO hK hP hD hS hA (by decide) (by decide) (by decide) (Nat.le_of_ble_eq_true rfl) (Nat.le_of_ble_eq_true rfl) dX0_init_6 (fun ha dA H hK hP hD hS => ?_)
  have hP : va_P (dC, dI) vwCl [(hd, .inr (0, [.null])), (ha, .inl (dA, 2, .inr (.inr (.inr (.inr (fun _ => none))))))] H := hP
  have hD : va_D (va_A [(hd, .inr (0, [.null]))] s.heap.size) [(hd, .inr (0, [.null])), (ha, .inl (dA, 2, .inr (.inr (.inr (.inr (fun _ => none))))))] := hD
  have hK : va_K (dC, dI) vwCl (DT dA) s := hK
  have hK0 := hK.sub (tys' := []) [] rfl
  refine W.widen (k := 1) (n := 2) (Nat.le_of_ble_eq_true rfl) (Nat.le_of_ble_eq_true rfl) ?_
  refine lv_dup hx hb dX0_init_9 rfl ?_
  refine lv_iconst (v := 0) hx hb dX0_init_10 (by decide) ?_
  refine lv_lconst (v := 0) hx hb dX0_init_11 (by decide) ?_
  refine lv_lconst (v := 0) hx hb dX0_init_12 (by decide) ?_
  have hF13 : ∀ x, va_A [] H.size x → va_A [(hd, .inr (0, [.null]))] s.heap.size x := fun x h => Or.inr (Nat.le_trans hS.1 (va_A0 h))
  have hP13 := hP
  have z13 := hS.1
  refine va_callr (va_runS (As := [.long 0, .long 0]) (rest := [.int 0, .ref ha, .ref ha, .ref hd]) ⟨hx, hb, hml, hown, hts⟩ (metX2_ofEpochSecond l dC dI ep H.size 0 0 (by rw [z0]; decide) (by rw [z0]; decide) (by rw [z0]; decide) (by rw [z0]; decide)) (va_cwS 2 hts (lw_S q25 q26 q7 q27) rfl rfl rfl (by decide +kernel) ⟨Nat.le_of_ble_eq_true rfl, Nat.le_of_ble_eq_true rfl⟩) ⟨bl_i, fun U hU hW => ⟨rfl, by rw [hU], va_K.moved hW.alike hK0, hE.call hS hF13 hU hW.alike, va_P0⟩⟩ rfl rfl hl.1 rfl (lv_room (Nat.le_of_ble_eq_true rfl)) dX0_init_13 ⟨Nat.le_of_ble_eq_true rfl, Nat.le_of_ble_eq_true rfl⟩) hS (fun q _ h => hF13 q h) hF13 (fun u13 a13 t13 H13 locs ht hvm hw13 hB13 hz13 hk13 hS => ?_)
  subst ht
  have hP := old_P hP13 hk13
  refine W.widen (k := 2) (n := 4) (Nat.le_of_ble_eq_true rfl) (Nat.le_of_ble_eq_true rfl) ?_
  refine my_astq (ws := [(hd, .inr (0, [.null])), (ha, .inl (dA, 2, .inr (.inr (.inr (.inr (fun _ => none))))))]) hx hb hK hP hD hS 1 0 1 rfl rfl hB13.1 rfl n_in0 dX0_init_16 (fun H locs oq hP hD hS => ?_)
  rw [n_cl0] at hP hD
  have hP : va_P (dC, dI) vwCl [(hd, .inr (0, [.null])), (ha, .inl (dA, 2, .inr (.inr (.inr (.inr (va_up (fun _ => none) 0 (some a13)))))))] H := hP
  have hD : va_D (va_A [(hd, .inr (0, [.null]))] s.heap.size) [(hd, .inr (0, [.null])), (ha, .inl (dA, 2, .inr (.inr (.inr (.inr (va_up (fun _ => none) 0 (some a13)))))))] := hD
  have b13 := ini_at hE hD hP13 z13 hB13.2
  have hQ := hB13.1.kept (oq a13 b13.2.1)
  refine lv_dup hx hb dX0_init_17 rfl ?_
  refine lv_iconst (v := 1) hx hb dX0_init_18 (by decide) ?_
  refine lv_lconst (v := 0) hx hb dX0_init_19 (by decide) ?_
  refine lv_lconst (v := 0) hx hb dX0_init_20 (by decide) ?_
  have hF21 : ∀ x, va_A [] H.size x → va_A [(hd, .inr (0, [.null]))] s.heap.size x := fun x h => Or.inr (Nat.le_trans hS.1 (va_A0 h))
  have hP21 := hP
  have z21 := hS.1
  refine va_callr (va_runS (As := [.long 0, .long 0]) (rest := [.int 1, .ref ha, .ref ha, .ref hd]) ⟨hx, hb, hml, hown, hts⟩ (metX2_ofEpochSecond l dC dI ep H.size 0 0 (by rw [z0]; decide) (by rw [z0]; decide) (by rw [z0]; decide) (by rw [z0]; decide)) (va_cwS 2 hts (lw_S q25 q26 q7 q27) rfl rfl rfl (by decide +kernel) ⟨Nat.le_of_ble_eq_true rfl, Nat.le_of_ble_eq_true rfl⟩) ⟨bl_i, fun U hU hW => ⟨rfl, by rw [hU], va_K.moved hW.alike hK0, hE.call hS hF21 hU hW.alike, va_P0⟩⟩ rfl rfl hl.1 rfl (lv_room (Nat.le_of_ble_eq_true rfl)) dX0_init_21 ⟨Nat.le_of_ble_eq_true rfl, Nat.le_of_ble_eq_true rfl⟩) hS (fun q _ h => hF21 q h) hF21 (fun u21 a21 t21 H21 locs ht hvm hw21 hB21 hz21 hk21 hS => ?_)
  subst ht
  have hP := old_P hP21 hk21
  refine W.widen (k := 3) (n := 6) (Nat.le_of_ble_eq_true rfl) (Nat.le_of_ble_eq_true rfl) ?_
  have hQ := hQ.kept (hk21 _ hQ.lt (fun z => absurd (va_A0 z) (Nat.not_le.mpr hQ.lt)))
  refine my_astq (ws := [(hd, .inr (0, [.null])), (ha, .inl (dA, 2, .inr (.inr (.inr (.inr (va_up (fun _ => none) 0 (some a13)))))))]) hx hb hK hP hD hS 1 0 1 rfl rfl hB21.1 rfl n_in1 dX0_init_24 (fun H locs oq hP hD hS => ?_)
  rw [n_cl1] at hP hD
  have hP : va_P (dC, dI) vwCl [(hd, .inr (0, [.null])), (ha, .inl (dA, 2, .inr (.inr (.inr (.inr (va_up (va_up (fun _ => none) 0 (some a13)) 1 (some a21)))))))] H := hP
  have hD : va_D (va_A [(hd, .inr (0, [.null]))] s.heap.size) [(hd, .inr (0, [.null])), (ha, .inl (dA, 2, .inr (.inr (.inr (.inr (va_up (va_up (fun _ => none) 0 (some a13)) 1 (some a21)))))))] := hD
  have b21 := ini_at hE hD hP21 z21 hB21.2
  have hQ := hQ.kept (oq a13 b13.2.1)
  have hR := hB21.1.kept (oq a21 b21.2.1)
  refine my_putF (D := (dC, dI)) (ci := 0) (v := .ref ha) (ty := .array (.object "Instant")) (C := RX0) (T := TX0) (N := 1) hx hb hts in_X0 tyX0 tyX0_ok nmX0 hown hK hP hD hS 0 rfl rfl 0 (by decide) (hts _ q145) (fun _ h9 => h9) rfl hin rfl (by decide +kernel) rfl rfl (Nat.le_of_ble_eq_true rfl) dX0_init_25 (fun H locs oq hP hD hS => ?_)
  have hP : va_P (dC, dI) vwCl [(hd, .inr (0, [.ref ha])), (ha, .inl (dA, 2, .inr (.inr (.inr (.inr (va_up (va_up (fun _ => none) 0 (some a13)) 1 (some a21)))))))] H := hP
  have hD : va_D (va_A [(hd, .inr (0, [.null]))] s.heap.size) [(hd, .inr (0, [.ref ha])), (ha, .inl (dA, 2, .inr (.inr (.inr (.inr (va_up (va_up (fun _ => none) 0 (some a13)) 1 (some a21)))))))] := hD
  have hQ := hQ.kept (oq a13 b13.1)
  have hR := hR.kept (oq a21 b21.1)
  obtain ⟨f1, f2⟩ := u13
  obtain ⟨g1, g2⟩ := u21
  obtain ⟨hw1, hw2⟩ := hw13
  obtain ⟨hw3, hw4⟩ := hw21
  dsimp only at hw1 hw2 hw3 hw4
  rw [z0] at hw1 hw2 hw3 hw4
  have hP := dw_of (q := fun i => if i = 0 then a13 else a21) hP (fun i hi => by rcases (show i = 0 ∨ i = 1 by omega) with rfl | rfl <;> rfl)
  have hD : va_D (va_A [(hd, .inr (0, [.null]))] s.heap.size) (DW hd ha dA (fun i => if i = 0 then a13 else a21)) := hD.set (p := 1) rfl
  exact W.vret hx hb hr (fun t ht hW => ⟨⟨(ha, dA, (fun i => if i = 0 then a13 else a21), (fun i => if i = 0 then f1 else g1), (fun i => if i = 0 then f2 else g2)), rfl, (fun i hi => by rcases (show i = 0 ∨ i = 1 by omega) with rfl | rfl; exact ⟨by simpa using hw1, by simpa using hw2⟩; exact ⟨by simpa using hw3, by simpa using hw4⟩), by rw [ht]; exact hP, hD, va_K.moved hW.alike hK, (fun i hi => by rw [ht]; rcases (show i = 0 ∨ i = 1 by omega) with rfl | rfl; exact ⟨hQ, b13.1, b13.2.1⟩; exact ⟨hR, b21.1, b21.2.1⟩), (fun i hi => by rcases (show i = 0 ∨ i = 1 by omega) with rfl | rfl; exact b13.2.2; exact b21.2.2)⟩, hS.F ht⟩) hS.2.2 dX0_init_28
end
section
/-! THE CLAIM OUT OF ONE WALK OF THE LAW'S BODY. Your part is whole_start (and what it stands on); all else here is the same for every law, but numbers. -/
def R_law : String := "InstantDeskLaw"
def lw_P (b : Addr) (xs : List Int32) (args : Array Value) (s : State) : Prop := args = #[.ref b] ∧ s.IntsAt b xs ∧ xs.length ≤ 288 ∧ (Jvm.Cond.and given_1 narrow_1).before args s = true
def lw_Q (_ : Array Value) (s : State) (o : Outcome) (t : State) : Prop := o = .returned (some (.int 1)) ∧ Framed s o t [] 1200096 5501386
def lw_Z (below : List Frame) (a : Array Value) (s : State) : State → Prop := fun t => ∃ o, t.status = .running ∧ Ended t below o ∧ lw_Q a s o t
/-- the law's own end, with 1 on the stack, nothing written that was there before, its room as the claim has it -/
theorem lw_ret {p : Program} {l : Launch} {e : Env} {s : State} {m : MethodId} {below : List Frame} {meth : Method} {c : Code} {b : Nat} (hx : p.tables.exec = Jvm.exec) (hb : c.code = code) (hr : meth.sig.returnType = ret) (hlocks : meth.locks = false) {pc : Nat} {H : Heap} {ls : Array Slot} (hdg : decode code pc = .ok (.ireturn, 1)) : W p l e room_1 s m #[Value.ref b] below meth c H [] 1200096 5501386 (lw_Z below #[Value.ref b] s) (F0 m pc ls [.int 1]) := by
  intro T hT X
  obtain ⟨fs, hret, hrun, hended, hW, hframe⟩ := X.leave (v := some (.int 1)) (hlocks := hlocks) (fun h => by rw [hr] at h; cases h)
  have hmeth' : T.vm.method? m = some meth := X.method'
  refine ⟨T.setFrames fs, ?_, .returned (some (.int 1)), hrun, hended, rfl, ⟨_, rfl⟩, hW, hframe⟩
  jvm_step X.here [X.here.top, hx, hb, hdg, hmeth', hr, ret, narrow_b1]
  (try refine ⟨rfl, ?_⟩); (try refine ⟨rfl, ?_⟩)
  first | (intro acts; rw [hret _ acts rfl rfl rfl]) | rw [hret _ _ rfl rfl rfl]
  exact Steps.refl _
/-- what holds at the law's entry: the machine, the code, the tables' words (any of lw_tbl by 'hts w (by decide +kernel)'), the script of L ints xs at the cell b, what the Statement gives of the start (any of its parts by flat_of_before) -/
def lw_At (p : Program) (s : State) (m : MethodId) (meth : Method) (c : Code) (b L : Nat) (xs : Nat → Int32) : Prop :=
  p.tables.exec = Jvm.exec ∧ c.code = code ∧ meth.sig.returnType = ret ∧ c.maxLocals = 4 ∧ s.vm.findClass R_law = some m.cls ∧ (∀ w ∈ lw_tbl, w.before #[Value.ref b] s = true) ∧ va_X b L xs s s.heap ∧ b < s.heap.size ∧ meth.locks = false ∧ (Jvm.Cond.and given_1 narrow_1).before #[Value.ref b] s = true
/-! THE LAW'S LOOP: desk and model side by side -/
abbrev LA (s : State) : Nat → Prop := fun q : Nat => s.heap.size ≤ q
abbrev LW (hd ha mo mw mp : Nat) (dA d1 d2 : ClassId) (q : Nat → Nat) (w pt : Nat → Int64) : va_W := [(hd, .inr (0, [.ref ha])), (ha, .inl (dA, 2, .inr (.inr (.inr (.inr (fun i => some (q i))))))), (mo, .inr (2, [.ref mw, .ref mp])), (mw, .inl (d1, 2, .inr (.inl w))), (mp, .inl (d2, 2, .inr (.inl pt)))]
abbrev LT (dA d1 d2 : ClassId) : List (ClassId × FieldType) := [(dA, .object RX2), (d1, .long), (d2, .long)]
/-- the two Instants are none of the model's cells -/
def AP (q : Nat → Nat) (mo mw mp : Nat) : Prop := ∀ j, j < 2 → q j ≠ mo ∧ q j ≠ mw ∧ q j ≠ mp
/-- desk and model hold the same two points -/
def REL (sv : Nat → Int64) (nv : Nat → Int32) (w pt : Nat → Int64) : Prop := ∀ j, j < 2 → (sv j).toInt = (w j).toInt ∧ (nv j).toInt = (pt j).toInt ∧ 0 ≤ (nv j).toInt ∧ (nv j).toInt < 1000000000
theorem REL.step {sv : Nat → Int64} {nv : Nat → Int32} {w pt : Nat → Int64} (h : REL sv nv w pt) {j : Nat} {u : DU} {v : (Nat → Int64) × (Nat → Int64)} {S N S' N' : Int} (h1 : PD sv nv u j S N) (h2 : PM w pt v j S' N') (eS : S = S') (eN : N = N') (n0 : 0 ≤ N) (n1 : N < 1000000000) : REL u.2.1 u.2.2 v.1 v.2 := by
  obtain ⟨a1, a2, a3⟩ := h1
  obtain ⟨b1, b2, b3⟩ := h2
  intro i hi
  by_cases e : i = j
  · subst e
    exact ⟨by rw [a1, b1, eS], by rw [a2, b2, eN], by rw [a2]; exact n0, by rw [a2]; exact n1⟩
  · obtain ⟨c1, c2⟩ := a3 i hi e
    obtain ⟨d1, d2⟩ := b3 i hi e
    rw [c1, c2, d1, d2]
    exact h i hi
theorem REL.step2 {sv : Nat → Int64} {nv : Nat → Int32} {w pt : Nat → Int64} (h : REL sv nv w pt) {j : Nat} (hj : j < 2) {q : Nat → Nat} {u : DU} {v : (Nat → Int64) × (Nat → Int64)} {S N S' N' : Int} {r1 r2 : Int32} (h1 : (r1.toInt = 1 ∧ (-31000000000000000 ≤ (sv j).toInt ∧ (sv j).toInt ≤ 31000000000000000) ∧ PD sv nv u j S N) ∨ (r1.toInt = 0 ∧ ¬ (-31000000000000000 ≤ (sv j).toInt ∧ (sv j).toInt ≤ 31000000000000000) ∧ u = (q, sv, nv))) (h2 : (r2.toInt = 1 ∧ (-31000000000000000 ≤ (w j).toInt ∧ (w j).toInt ≤ 31000000000000000) ∧ PM w pt v j S' N') ∨ (r2.toInt = 0 ∧ ¬ (-31000000000000000 ≤ (w j).toInt ∧ (w j).toInt ≤ 31000000000000000) ∧ v = (w, pt))) (eS : S = S') (eN : N = N') (n0 : 0 ≤ N) (n1 : N < 1000000000) : r1 = r2 ∧ REL u.2.1 u.2.2 v.1 v.2 := by
  obtain ⟨g1, -⟩ := h j hj
  rcases h1 with ⟨a1, a2, a3⟩ | ⟨a1, a2, a3⟩ <;> rcases h2 with ⟨b1, b2, b3⟩ | ⟨b1, b2, b3⟩
  · exact ⟨Int32.toInt_inj.mp (a1.trans b1.symm), h.step a3 b3 eS eN n0 n1⟩
  · exact absurd ⟨by omega, by omega⟩ b2
  · exact absurd ⟨by omega, by omega⟩ a2
  · subst a3
    subst b3
    exact ⟨Int32.toInt_inj.mp (a1.trans b1.symm), h⟩
theorem not_MW {mo mw mp : Nat} {d1 d2 : ClassId} {w pt : Nat → Int64} {sz x : Nat} (h : x ≠ mo ∧ x ≠ mw ∧ x ≠ mp) (hx : x < sz) : ¬ va_A (MW mo mw mp d1 d2 w pt) sz x := by
  intro z
  rcases z with ⟨k, e, z⟩ | z
  · match k, z with
    | 0, z => cases z; exact h.1 rfl
    | 1, z => cases z; exact h.2.1 rfl
    | 2, z => cases z; exact h.2.2 rfl
    | k + 3, z => simp [MW] at z
  · omega
theorem INS.kept2 {D : va_G} {hd ha : Nat} {q : Nat → Nat} {sv : Nat → Int64} {nv : Nat → Int32} {H H1 : Heap} (h : INS D hd ha q sv nv H) (hk : ∀ j, j < 2 → H1[q j]? = H[q j]?) : INS D hd ha q sv nv H1 := fun j hj => ⟨(h j hj).1.kept (hk j hj), (h j hj).2⟩
theorem va_P2 {D : va_G} {cl : List vw_C} {a b : Nat × va_E} {H : Heap} (h1 : va_at D cl a H) (h2 : va_at D cl b H) : va_P D cl [a, b] H := (va_P1 h1).app (va_P1 h2)
/-- behind a call of the desk its Instants still are none of the model's cells -/
theorem AP.step {D : va_G} {ep hd ha mo mw mp : Nat} {dA d1 d2 : ClassId} {q q' : Nat → Nat} {w pt : Nat → Int64} {s : State} {H : Heap} (hE : EPO D ep (LA s) s) (hD : va_D (LA s) (LW hd ha mo mw mp dA d1 d2 q w pt)) (hP : va_P D vwCl (LW hd ha mo mw mp dA d1 d2 q w pt) H) (hN : AP q mo mw mp) (h : ∀ i, i < 2 → q' i = ep ∨ q' i = q i ∨ H.size ≤ q' i) : AP q' mo mw mp := by
  have l1 : mo < H.size := (hP 2 _ rfl).lt
  have l2 : mw < H.size := (hP 3 _ rfl).lt
  have l3 : mp < H.size := (hP 4 _ rfl).lt
  have e1 : ep ≠ mo := fun z => hE.2.2 (z ▸ hD.2 2 _ rfl)
  have e2 : ep ≠ mw := fun z => hE.2.2 (z ▸ hD.2 3 _ rfl)
  have e3 : ep ≠ mp := fun z => hE.2.2 (z ▸ hD.2 4 _ rfl)
  intro j hj
  rcases h j hj with h | h | h
  · rw [h]
    exact ⟨e1, e2, e3⟩
  · rw [h]
    exact hN j hj
  · exact ⟨by omega, by omega, by omega⟩
/-- all that holds at the loop's head -/
def LInv (dC : Nat → ClassId) (dI : Nat → Nat → Nat) (s : State) (hd ha mo mw mp : Nat) (dA d1 d2 : ClassId) (q : Nat → Nat) (sv : Nat → Int64) (nv : Nat → Int32) (w pt : Nat → Int64) (H : Heap) (locs : List Loc) : Prop :=
  REL sv nv w pt ∧ va_P (dC, dI) vwCl (LW hd ha mo mw mp dA d1 d2 q w pt) H ∧ va_D (LA s) (LW hd ha mo mw mp dA d1 d2 q w pt) ∧ INS (dC, dI) hd ha q sv nv H ∧ AP q mo mw mp ∧ va_S (LA s) s.heap H locs
theorem n_add_i (i k : Nat) {x y : Int32} (h : y = nI i + x) (hx : x = nI k) : y = nI (i + k) := by
  rw [h, hx]
  exact nI_add i k
theorem bl_di {D : va_G} {cl : List vw_C} {tys : List (ClassId × FieldType)} {ws : va_W} {av : List Value} {sz ep : Nat} {A A2 : Nat → Prop} {C : String} : FrameBlind (va_Pc av (fun U => U.heap.size = sz ∧ va_P D cl ws U.heap ∧ va_K D cl tys U ∧ va_D A ws ∧ EPO D ep A2 U ∧ va_AO C U)) := fun a U g mk q => ⟨q.1, q.2.1, q.2.2.1, va_K.moved (u := U) (U := U.calling g mk a) (Vm.Alike.refl U.vm) q.2.2.2.1, q.2.2.2.2.1, q.2.2.2.2.2.1.blind, va_AO.moved (u := U) (U := U.calling g mk a) (Vm.Alike.refl U.vm) q.2.2.2.2.2.2⟩
section MYN
variable {p : Program} {l : Launch} {e : Env} {R : Room} {s : State} {m : MethodId} {args : Array Value} {below : List Frame} {meth : Method} {c0 : Code} {H : Heap} {locs : List Loc} {cells slots : Nat} {Q : State → Prop}
variable {cc : ByteArray} {pc : Nat} {ls : Array Slot} {rest : List Value} {D : va_G} {cl : List vw_C} {A : Nat → Prop} {tys : List (ClassId × FieldType)} {ws : va_W} {H0 : Heap}
/-- new; what stands in the heap stays -/
theorem my_new (hexec : p.tables.exec = Jvm.exec) (hb : c0.code = cc) {own C : String} {T : u_T} {N ci index : Nat} {Ts : List Cond} (hts : ∀ w ∈ Ts, w.before args s = true) (hin : ∀ w ∈ u_ws C T N, w ∈ Ts) (ty : Nat → FieldType) (hty : ∀ k, k < N → parseFieldDescriptor (T k).2.2.1 = some (ty k)) (hown : s.vm.findClass own = some m.cls) (hcl : (Cond.classLink own index C).before args s = true) (hinst : (Cond.instantiable C N).before args s = true) (hini : (Cond.initialized C).before args s = true)
    (hK : va_K D cl tys s) (hP : va_P D cl ws H) (hD : va_D A ws) (hS : va_S A H0 H locs) (hA : ∀ q, H0.size ≤ q → A q) (hc : cl[ci]? = some (C, T, N)) {fs : List Value} (hfs : ∀ j, j < N → defaultValue (ty j) = vp_V fs j) (hcells : cells + 1 ≤ R.cells) (hslots : slots + N ≤ R.slots) (hdg : decode cc pc = .ok (.new index, 3))
    (kk : ∀ (q : Nat) (H1 : Heap), q = H.size → (∀ x : Nat, x < H.size → H1[x]? = H[x]?) → va_P D cl (ws ++ [(q, .inr (ci, fs))]) H1 → va_D A (ws ++ [(q, .inr (ci, fs))]) → va_S A H0 H1 locs →
      W p l e R s m args below meth c0 H1 locs (cells + 1) (slots + N) Q (F0 m (pc + 3) ls (.ref q :: rest))) : W p l e R s m args below meth c0 H locs cells slots Q (F0 m pc ls rest) := by
  have hKn := hK.1 ci _ hc
  refine W.newcK hexec hb hown hcl hinst hini rfl hdg hcells hslots hKn.2.1 rfl fun H1 kC hkC e1 z1 o1 => ?_
  have hk : ∀ (k : Nat) (x : Nat × va_E), ws[k]? = some x → H1[x.1]? = H[x.1]? := fun k x hx => o1 x.1 ((hP k x hx).lt)
  refine kk H.size H1 rfl o1 ((hP.kept hk).app (fun k x hx => ?_)) (hD.push hP rfl (hA _ hS.1)) ⟨Nat.le_trans hS.1 (by omega), fun x h1 h2 => (o1 x (Nat.lt_of_lt_of_le h1 hS.1)).trans (hS.2.1 x h1 h2), hS.2.2⟩
  have hz : k < 1 := (List.getElem?_eq_some_iff.mp hx).1
  rw [show k = 0 by omega] at hx
  cases hx
  exact ⟨_, hc, (u_born ty hts hin hKn hkC e1 hty).to hfs⟩
end MYN
/-- EPOCH at the claim's start -/
theorem epo_start {args : Array Value} {s : State} {dC : Nat → ClassId} {dI : Nat → Nat → Nat} {A : Nat → Prop} (hKn : u_Kn s RX2 TX2 2 (dC 1) (dI 1)) (hl : (Cond.laysStatic "Instant" "EPOCH" "LInstant;").before args s = true) (hini : (Cond.initialized "Instant").before args s = true) (hex : (Cond.exactly (.static "Instant" "EPOCH" "LInstant;") "Instant").before args s = true) (hun : (Cond.untouched (.static "Instant" "EPOCH" "LInstant;")).before args s = true) (hs : (Cond.eq (.field (.static "Instant" "EPOCH" "LInstant;") "Instant" "seconds" "J") (.long 0)).before args s = true) (hn : (Cond.eq (.field (.static "Instant" "EPOCH" "LInstant;") "Instant" "nanos" "I") (.int 0)).before args s = true) (hA : ∀ a : Nat, a < s.heap.size → ¬ A a) : ∃ ep : Nat, EPO (dC, dI) ep A s := by
  obtain ⟨a, c, cell, k, q1, q2, q3, q4, q5, q6, -⟩ := Cond.exactly_spec hex
  obtain ⟨a2, cell2, p1, p2, -, -, p3⟩ := Cond.untouched_spec hun
  have e1 : a = a2 := by
    have h := q1.symm.trans p1
    cases h
    rfl
  subst e1
  have e2 : cell = cell2 := Option.some.inj (q3.symm.trans p2)
  subst e2
  have hal : a < s.heap.size := (Array.getElem?_eq_some_iff.mp q3).1
  refine ⟨a, va_Zref hl hini q1 hA, ⟨(RX2, TX2, 2), rfl, cell, q3, ?_, p3, fun k hk => ?_⟩, hA a hal⟩
  · show cell.cls = dC 1
    rw [q6]
    exact Option.some.inj (q2.symm.trans hKn.2.1)
  · obtain ⟨cf, kf, fi, fd, hi, he⟩ := hKn.1 k hk
    show cell.slots[dI 1 k]? = some (vp_V [.long 0, .int 0] k)
    rw [← he]
    have hk2 : k < 2 := hk
    rcases (show k = 0 ∨ k = 1 by omega) with rfl | rfl
    · obtain ⟨g1, cell3, g2, g3, -, -, g6⟩ := Term.field_spec hi q1 (va_eqtl hs)
      have e3 : cell = cell3 := Option.some.inj (q3.symm.trans g2)
      subst e3
      exact g6
    · obtain ⟨g1, cell3, g2, g3, -, -, g6⟩ := Term.field_spec hi q1 (va_eqt hn)
      have e3 : cell = cell3 := Option.some.inj (q3.symm.trans g2)
      subst e3
      exact g6
theorem not_one {mo sz x : Nat} {ev : va_E} (h : x ≠ mo) (hx : x < sz) : ¬ va_A [(mo, ev)] sz x := by
  intro z
  rcases z with ⟨k, e, z⟩ | z
  · match k, z with
    | 0, z => cases z; exact h rfl
    | k + 1, z => simp at z
  · omega
/-- the model's new cells are none of the desk's Instants -/
theorem ap_start {D : va_G} {hd ha mo mw mp : Nat} {d1 d2 : ClassId} {q : Nat → Nat} {sv : Nat → Int64} {nv : Nat → Int32} {w pt : Nat → Int64} {H : Heap} {ev : va_E} (hI : INS D hd ha q sv nv H) (hN : ∀ j, j < 2 → q j ≠ mo) (hD : va_D (va_A [(mo, ev)] H.size) (MW mo mw mp d1 d2 w pt)) : AP q mo mw mp := by
  intro j hj
  have hno := not_one (ev := ev) (hN j hj) (hI j hj).1.lt
  exact ⟨hN j hj, fun z => hno (z ▸ hD.2 1 _ rfl), fun z => hno (z ▸ hD.2 2 _ rfl)⟩
set_option maxHeartbeats 4000000 in
set_option maxRecDepth 100000 in
/-- a point is set -/
theorem law_case0 {p : Program} {l : Launch} {e : Env} {s : State} {m : MethodId} {below : List Frame} {meth : Method} {c : Code} {dC : Nat → ClassId} {dI : Nat → Nat → Nat} {b L : Nat} {xs : Nat → Int32} (hL : L ≤ 288) (C0 : lw_At p s m meth c b L xs) {ep hd ha mo mw mp : Nat} {dA d1 d2 : ClassId} (hE : EPO (dC, dI) ep (LA s) s) (hK : va_K (dC, dI) vwCl (LT dA d1 d2) s) {k i : Nat} (hk : k ≤ 48) (hi : i + 6 ≤ L) {Z : State → Prop}
    (nxt : ∀ (q : Nat → Nat) (sv : Nat → Int64) (nv : Nat → Int32) (w pt : Nat → Int64) (H : Heap) (locs : List Loc), LInv dC dI s hd ha mo mw mp dA d1 d2 q sv nv w pt H locs → ∀ ls : Array Slot, lv_has ls 4 [(0, .ref b), (1, .ref hd), (2, .ref mo), (3, .int (nI i))] → W p l e room_1 s m #[Value.ref b] below meth c H locs (8 + k + 1) (16 + 2 * k + 2) Z (F0 m 393 ls []))
    {q : Nat → Nat} {sv : Nat → Int64} {nv : Nat → Int32} {w pt : Nat → Int64} {H : Heap} {locs : List Loc} (hv : LInv dC dI s hd ha mo mw mp dA d1 d2 q sv nv w pt H locs) {ls : Array Slot} (hl : lv_has ls 4 [(0, .ref b), (1, .ref hd), (2, .ref mo), (3, .int (nI i))]) : W p l e room_1 s m #[Value.ref b] below meth c H locs (8 + k) (16 + 2 * k) Z (F0 m 92 ls []) := by
  obtain ⟨hx, hb, hr, hml, hown, hts0, hX, hbl, hlocks, hgv⟩ := C0
  have hts : ∀ w ∈ lw_all, w.before _ s = true := fun w h => hts0 w (lw_all_tbl h)
  have hA : ∀ q : Nat, s.heap.size ≤ q → LA s q := fun _ h => h
  have hbA : ¬ LA s b := Nat.not_le.mpr hbl
  obtain ⟨hR, hP, hD, hI, hN, hS⟩ := hv
  obtain ⟨j, hj, ej⟩ := n_ix (xs (i + 1))
  obtain ⟨g1, g2, g3, g4⟩ := hR j hj
  refine lv_aload_n hx hb dL_law_92 rfl (lv_at hl 1 rfl) ?_
  refine lv_aload_n hx hb dL_law_93 rfl (lv_at hl 0 rfl) ?_
  refine lv_iload_n hx hb dL_law_94 rfl (lv_at hl 3 rfl) ?_
  refine lv_iconst (v := 1) hx hb dL_law_95 (by decide) ?_
  refine lv_iadd hx hb dL_law_96 ?_
  refine lv_topi (fun v96 e96 => ?_)
  obtain rfl : v96 = nI (i + 1) := n_add_i i 1 e96 rfl
  refine va_sld hx hb hX hbl hbA hS (vp_in_nI (show i + 1 < L by omega) (by omega)) dL_law_97 ?_
  refine lv_topi (fun v97 e97 => ?_)
  rw [nI_clamp (show i + 1 < 2 ^ 31 by omega)] at e97
  subst e97
  refine lv_aload_n hx hb dL_law_98 rfl (lv_at hl 0 rfl) ?_
  refine lv_iload_n hx hb dL_law_99 rfl (lv_at hl 3 rfl) ?_
  refine lv_iconst (v := 2) hx hb dL_law_100 (by decide) ?_
  refine lv_iadd hx hb dL_law_101 ?_
  refine lv_topi (fun v101 e101 => ?_)
  obtain rfl : v101 = nI (i + 2) := n_add_i i 2 e101 rfl
  refine va_sld hx hb hX hbl hbA hS (vp_in_nI (show i + 2 < L by omega) (by omega)) dL_law_102 ?_
  refine lv_topi (fun v102 e102 => ?_)
  rw [nI_clamp (show i + 2 < 2 ^ 31 by omega)] at e102
  subst e102
  refine lv_aload_n hx hb dL_law_103 rfl (lv_at hl 0 rfl) ?_
  refine lv_iload_n hx hb dL_law_104 rfl (lv_at hl 3 rfl) ?_
  refine lv_iconst (v := 3) hx hb dL_law_105 (by decide) ?_
  refine lv_iadd hx hb dL_law_106 ?_
  refine lv_topi (fun v106 e106 => ?_)
  obtain rfl : v106 = nI (i + 3) := n_add_i i 3 e106 rfl
  refine va_sld hx hb hX hbl hbA hS (vp_in_nI (show i + 3 < L by omega) (by omega)) dL_law_107 ?_
  refine lv_topi (fun v107 e107 => ?_)
  rw [nI_clamp (show i + 3 < 2 ^ 31 by omega)] at e107
  subst e107
  refine lv_aload_n hx hb dL_law_108 rfl (lv_at hl 0 rfl) ?_
  refine lv_iload_n hx hb dL_law_109 rfl (lv_at hl 3 rfl) ?_
  refine lv_iconst (v := 4) hx hb dL_law_110 (by decide) ?_
  refine lv_iadd hx hb dL_law_111 ?_
  refine lv_topi (fun v111 e111 => ?_)
  obtain rfl : v111 = nI (i + 4) := n_add_i i 4 e111 rfl
  refine va_sld hx hb hX hbl hbA hS (vp_in_nI (show i + 4 < L by omega) (by omega)) dL_law_112 ?_
  refine lv_topi (fun v112 e112 => ?_)
  rw [nI_clamp (show i + 4 < 2 ^ 31 by omega)] at e112
  subst e112
  have hPc := hP.sub (ws' := DW hd ha dA q) [0, 1] rfl
  have hDc := hD.sub (ws' := DW hd ha dA q) [0, 1] (by decide) rfl
  have hKc := hK.sub (tys' := DT dA) [0] rfl
  have hF113 := va_free (wc := DW hd ha dA q) hD hS hA [0, 1] rfl
  refine va_callv (va_runV (As := [.int (xs (i + 1)), .int (xs (i + 2)), .int (xs (i + 3)), .int (xs (i + 4))]) (rest := []) ⟨hx, hb, hml, hown, hts⟩ (metX0_set l dC dI hd ha dA q sv nv ((xs (i + 1))) ((xs (i + 2))) ((xs (i + 3))) ((xs (i + 4))) j hj ej  ep H.size) (cwV 4 hts (lw_V q149 q150 q151 q5 q152) rfl rfl rfl (by decide +kernel) ⟨Nat.le_of_ble_eq_true rfl, Nat.le_of_ble_eq_true rfl⟩) ⟨bl_d, va_recv hKc hPc (ci := 0) (q0 := 0) rfl rfl, fun U hU hW => ⟨rfl, by rw [hU], by rw [hU]; exact hPc, va_K.moved hW.alike hKc, hDc.weaken (fun _ _ _ _ => trivial), by rw [hU]; exact hI, hE.call hS hF113 hU hW.alike⟩⟩ rfl rfl hl.1 rfl (lv_room (Nat.le_of_ble_eq_true rfl)) dL_law_113 ⟨Nat.le_trans (show _ ≤ 200 from by omega) (Nat.le_of_ble_eq_true rfl), Nat.le_trans (show _ ≤ 400 from by omega) (Nat.le_of_ble_eq_true rfl)⟩) hS (fun q _ h => hF113 q h) hF113 (fun u113 t113 H113 locs ht hvm hw113 hB113 hz113 hk113 hS => ?_)
  subst ht
  obtain ⟨q1, sv1, nv1⟩ := u113
  obtain ⟨hP1, hD1, hI, hat⟩ := hB113
  have hJ := va_join (wr := MW mo mw mp d1 d2 w pt) (w1 := DW hd ha dA q1) hP hD [0, 1] [2, 3, 4] rfl rfl (by decide) (by decide) hk113 hF113 hP1 hD1
  have hN := AP.step hE hD hP hN hat
  have hP := hJ.1.sub (ws' := LW hd ha mo mw mp dA d1 d2 q1 w pt) [3, 4, 0, 1, 2] rfl
  have hD := hJ.2.sub (ws' := LW hd ha mo mw mp dA d1 d2 q1 w pt) [3, 4, 0, 1, 2] (by decide) rfl
  refine lv_aload_n hx hb dL_law_116 rfl (lv_at hl 2 rfl) ?_
  refine lv_aload_n hx hb dL_law_117 rfl (lv_at hl 0 rfl) ?_
  refine lv_iload_n hx hb dL_law_118 rfl (lv_at hl 3 rfl) ?_
  refine lv_iconst (v := 1) hx hb dL_law_119 (by decide) ?_
  refine lv_iadd hx hb dL_law_120 ?_
  refine lv_topi (fun v120 e120 => ?_)
  obtain rfl : v120 = nI (i + 1) := n_add_i i 1 e120 rfl
  refine va_sld hx hb hX hbl hbA hS (vp_in_nI (show i + 1 < L by omega) (by omega)) dL_law_121 ?_
  refine lv_topi (fun v121 e121 => ?_)
  rw [nI_clamp (show i + 1 < 2 ^ 31 by omega)] at e121
  subst e121
  refine lv_aload_n hx hb dL_law_122 rfl (lv_at hl 0 rfl) ?_
  refine lv_iload_n hx hb dL_law_123 rfl (lv_at hl 3 rfl) ?_
  refine lv_iconst (v := 2) hx hb dL_law_124 (by decide) ?_
  refine lv_iadd hx hb dL_law_125 ?_
  refine lv_topi (fun v125 e125 => ?_)
  obtain rfl : v125 = nI (i + 2) := n_add_i i 2 e125 rfl
  refine va_sld hx hb hX hbl hbA hS (vp_in_nI (show i + 2 < L by omega) (by omega)) dL_law_126 ?_
  refine lv_topi (fun v126 e126 => ?_)
  rw [nI_clamp (show i + 2 < 2 ^ 31 by omega)] at e126
  subst e126
  refine lv_aload_n hx hb dL_law_127 rfl (lv_at hl 0 rfl) ?_
  refine lv_iload_n hx hb dL_law_128 rfl (lv_at hl 3 rfl) ?_
  refine lv_iconst (v := 3) hx hb dL_law_129 (by decide) ?_
  refine lv_iadd hx hb dL_law_130 ?_
  refine lv_topi (fun v130 e130 => ?_)
  obtain rfl : v130 = nI (i + 3) := n_add_i i 3 e130 rfl
  refine va_sld hx hb hX hbl hbA hS (vp_in_nI (show i + 3 < L by omega) (by omega)) dL_law_131 ?_
  refine lv_topi (fun v131 e131 => ?_)
  rw [nI_clamp (show i + 3 < 2 ^ 31 by omega)] at e131
  subst e131
  refine lv_aload_n hx hb dL_law_132 rfl (lv_at hl 0 rfl) ?_
  refine lv_iload_n hx hb dL_law_133 rfl (lv_at hl 3 rfl) ?_
  refine lv_iconst (v := 4) hx hb dL_law_134 (by decide) ?_
  refine lv_iadd hx hb dL_law_135 ?_
  refine lv_topi (fun v135 e135 => ?_)
  obtain rfl : v135 = nI (i + 4) := n_add_i i 4 e135 rfl
  refine va_sld hx hb hX hbl hbA hS (vp_in_nI (show i + 4 < L by omega) (by omega)) dL_law_136 ?_
  refine lv_topi (fun v136 e136 => ?_)
  rw [nI_clamp (show i + 4 < 2 ^ 31 by omega)] at e136
  subst e136
  have hPc := hP.sub (ws' := MW mo mw mp d1 d2 w pt) [2, 3, 4] rfl
  have hDc := hD.sub (ws' := MW mo mw mp d1 d2 w pt) [2, 3, 4] (by decide) rfl
  have hKc := hK.sub (tys' := MT d1 d2) [1, 2] rfl
  have hF137 := va_free (wc := MW mo mw mp d1 d2 w pt) hD hS hA [2, 3, 4] rfl
  refine va_callv (va_runV (As := [.int (xs (i + 1)), .int (xs (i + 2)), .int (xs (i + 3)), .int (xs (i + 4))]) (rest := []) ⟨hx, hb, hml, hown, hts⟩ (metX5_set l dC dI mo mw mp d1 d2 w pt ((xs (i + 1))) ((xs (i + 2))) ((xs (i + 3))) ((xs (i + 4))) j hj ej  t113.heap.size) (cwV 4 hts (lw_V q274 q275 q276 q14 q277) rfl rfl rfl (by decide +kernel) ⟨Nat.le_of_ble_eq_true rfl, Nat.le_of_ble_eq_true rfl⟩) ⟨bl_m, va_recv hKc hPc (ci := 2) (q0 := 0) rfl rfl, fun U hU hW => ⟨rfl, by rw [hU], by rw [hU]; exact hPc, va_K.moved hW.alike hKc, hDc.weaken (fun _ _ _ _ => trivial)⟩⟩ rfl rfl hl.1 rfl (lv_room (Nat.le_of_ble_eq_true rfl)) dL_law_137 ⟨Nat.le_trans (show _ ≤ 200 from by omega) (Nat.le_of_ble_eq_true rfl), Nat.le_trans (show _ ≤ 400 from by omega) (Nat.le_of_ble_eq_true rfl)⟩) hS (fun q _ h => hF137 q h) hF137 (fun u137 t137 H137 locs ht hvm hw137 hB137 hz137 hk137 hS => ?_)
  subst ht
  obtain ⟨w1, pt1⟩ := u137
  obtain ⟨hP1, hD1⟩ := hB137
  have hI := hI.kept2 (fun j hj => hk137 _ (hI j hj).1.lt (not_MW (hN j hj) (hI j hj).1.lt))
  have hJ := va_join (wr := DW hd ha dA q1) (w1 := MW mo mw mp d1 d2 w1 pt1) hP hD [2, 3, 4] [0, 1] rfl rfl (by decide) (by decide) hk137 hF137 hP1 hD1
  refine lv_goto (tgt := 393) hx hb dL_law_140 (by decide) ?_
  exact nxt q1 sv1 nv1 w1 pt1 _ _ ⟨hR.step hw113 hw137 rfl rfl (by omega) (by omega), hJ.1, hJ.2, hI, hN, hS⟩ ls hl
set_option maxHeartbeats 4000000 in
set_option maxRecDepth 100000 in
/-- seconds -/
theorem law_case1 {p : Program} {l : Launch} {e : Env} {s : State} {m : MethodId} {below : List Frame} {meth : Method} {c : Code} {dC : Nat → ClassId} {dI : Nat → Nat → Nat} {b L : Nat} {xs : Nat → Int32} (hL : L ≤ 288) (C0 : lw_At p s m meth c b L xs) {ep hd ha mo mw mp : Nat} {dA d1 d2 : ClassId} (hE : EPO (dC, dI) ep (LA s) s) (hK : va_K (dC, dI) vwCl (LT dA d1 d2) s) {k i : Nat} (hk : k ≤ 48) (hi : i + 6 ≤ L) {Z : State → Prop}
    (nxt : ∀ (q : Nat → Nat) (sv : Nat → Int64) (nv : Nat → Int32) (w pt : Nat → Int64) (H : Heap) (locs : List Loc), LInv dC dI s hd ha mo mw mp dA d1 d2 q sv nv w pt H locs → ∀ ls : Array Slot, lv_has ls 4 [(0, .ref b), (1, .ref hd), (2, .ref mo), (3, .int (nI i))] → W p l e room_1 s m #[Value.ref b] below meth c H locs (8 + k + 1) (16 + 2 * k + 2) Z (F0 m 393 ls []))
    {q : Nat → Nat} {sv : Nat → Int64} {nv : Nat → Int32} {w pt : Nat → Int64} {H : Heap} {locs : List Loc} (hv : LInv dC dI s hd ha mo mw mp dA d1 d2 q sv nv w pt H locs) {ls : Array Slot} (hl : lv_has ls 4 [(0, .ref b), (1, .ref hd), (2, .ref mo), (3, .int (nI i))]) : W p l e room_1 s m #[Value.ref b] below meth c H locs (8 + k) (16 + 2 * k) Z (F0 m 143 ls []) := by
  obtain ⟨hx, hb, hr, hml, hown, hts0, hX, hbl, hlocks, hgv⟩ := C0
  have hts : ∀ w ∈ lw_all, w.before _ s = true := fun w h => hts0 w (lw_all_tbl h)
  have hA : ∀ q : Nat, s.heap.size ≤ q → LA s q := fun _ h => h
  have hbA : ¬ LA s b := Nat.not_le.mpr hbl
  obtain ⟨hR, hP, hD, hI, hN, hS⟩ := hv
  obtain ⟨j, hj, ej⟩ := n_ix (xs (i + 1))
  obtain ⟨g1, g2, g3, g4⟩ := hR j hj
  refine lv_aload_n hx hb dL_law_143 rfl (lv_at hl 1 rfl) ?_
  refine lv_aload_n hx hb dL_law_144 rfl (lv_at hl 0 rfl) ?_
  refine lv_iload_n hx hb dL_law_145 rfl (lv_at hl 3 rfl) ?_
  refine lv_iconst (v := 1) hx hb dL_law_146 (by decide) ?_
  refine lv_iadd hx hb dL_law_147 ?_
  refine lv_topi (fun v147 e147 => ?_)
  obtain rfl : v147 = nI (i + 1) := n_add_i i 1 e147 rfl
  refine va_sld hx hb hX hbl hbA hS (vp_in_nI (show i + 1 < L by omega) (by omega)) dL_law_148 ?_
  refine lv_topi (fun v148 e148 => ?_)
  rw [nI_clamp (show i + 1 < 2 ^ 31 by omega)] at e148
  subst e148
  refine lv_aload_n hx hb dL_law_149 rfl (lv_at hl 0 rfl) ?_
  refine lv_iload_n hx hb dL_law_150 rfl (lv_at hl 3 rfl) ?_
  refine lv_iconst (v := 2) hx hb dL_law_151 (by decide) ?_
  refine lv_iadd hx hb dL_law_152 ?_
  refine lv_topi (fun v152 e152 => ?_)
  obtain rfl : v152 = nI (i + 2) := n_add_i i 2 e152 rfl
  refine va_sld hx hb hX hbl hbA hS (vp_in_nI (show i + 2 < L by omega) (by omega)) dL_law_153 ?_
  refine lv_topi (fun v153 e153 => ?_)
  rw [nI_clamp (show i + 2 < 2 ^ 31 by omega)] at e153
  subst e153
  have hPc := hP.sub (ws' := DW hd ha dA q) [0, 1] rfl
  have hDc := hD.sub (ws' := DW hd ha dA q) [0, 1] (by decide) rfl
  have hKc := hK.sub (tys' := DT dA) [0] rfl
  have hF154 := va_free (wc := DW hd ha dA q) hD hS hA [0, 1] rfl
  refine va_calli (va_runV (As := [.int (xs (i + 1)), .int (xs (i + 2))]) (rest := []) ⟨hx, hb, hml, hown, hts⟩ (metX0_seconds l dC dI hd ha dA q sv nv ((xs (i + 1))) ((xs (i + 2))) j hj ej g3 g4 ep H.size) (cwV 2 hts (lw_V q158 q159 q160 q5 q161) rfl rfl rfl (by decide +kernel) ⟨Nat.le_of_ble_eq_true rfl, Nat.le_of_ble_eq_true rfl⟩) ⟨bl_d, va_recv hKc hPc (ci := 0) (q0 := 0) rfl rfl, fun U hU hW => ⟨rfl, by rw [hU], by rw [hU]; exact hPc, va_K.moved hW.alike hKc, hDc.weaken (fun _ _ _ _ => trivial), by rw [hU]; exact hI, hE.call hS hF154 hU hW.alike⟩⟩ rfl rfl hl.1 rfl (lv_room (Nat.le_of_ble_eq_true rfl)) dL_law_154 ⟨Nat.le_trans (show _ ≤ 200 from by omega) (Nat.le_of_ble_eq_true rfl), Nat.le_trans (show _ ≤ 400 from by omega) (Nat.le_of_ble_eq_true rfl)⟩) hS (fun q _ h => hF154 q h) hF154 (fun r154 u154 t154 H154 locs ht hvm hw154 hB154 hz154 hk154 hS => ?_)
  subst ht
  obtain ⟨q1, sv1, nv1⟩ := u154
  obtain ⟨hP1, hD1, hI, hat⟩ := hB154
  have hJ := va_join (wr := MW mo mw mp d1 d2 w pt) (w1 := DW hd ha dA q1) hP hD [0, 1] [2, 3, 4] rfl rfl (by decide) (by decide) hk154 hF154 hP1 hD1
  have hN := AP.step hE hD hP hN hat
  have hP := hJ.1.sub (ws' := LW hd ha mo mw mp dA d1 d2 q1 w pt) [3, 4, 0, 1, 2] rfl
  have hD := hJ.2.sub (ws' := LW hd ha mo mw mp dA d1 d2 q1 w pt) [3, 4, 0, 1, 2] (by decide) rfl
  have hr := hw154
  refine lv_aload_n hx hb dL_law_157 rfl (lv_at hl 2 rfl) ?_
  refine lv_aload_n hx hb dL_law_158 rfl (lv_at hl 0 rfl) ?_
  refine lv_iload_n hx hb dL_law_159 rfl (lv_at hl 3 rfl) ?_
  refine lv_iconst (v := 1) hx hb dL_law_160 (by decide) ?_
  refine lv_iadd hx hb dL_law_161 ?_
  refine lv_topi (fun v161 e161 => ?_)
  obtain rfl : v161 = nI (i + 1) := n_add_i i 1 e161 rfl
  refine va_sld hx hb hX hbl hbA hS (vp_in_nI (show i + 1 < L by omega) (by omega)) dL_law_162 ?_
  refine lv_topi (fun v162 e162 => ?_)
  rw [nI_clamp (show i + 1 < 2 ^ 31 by omega)] at e162
  subst e162
  refine lv_aload_n hx hb dL_law_163 rfl (lv_at hl 0 rfl) ?_
  refine lv_iload_n hx hb dL_law_164 rfl (lv_at hl 3 rfl) ?_
  refine lv_iconst (v := 2) hx hb dL_law_165 (by decide) ?_
  refine lv_iadd hx hb dL_law_166 ?_
  refine lv_topi (fun v166 e166 => ?_)
  obtain rfl : v166 = nI (i + 2) := n_add_i i 2 e166 rfl
  refine va_sld hx hb hX hbl hbA hS (vp_in_nI (show i + 2 < L by omega) (by omega)) dL_law_167 ?_
  refine lv_topi (fun v167 e167 => ?_)
  rw [nI_clamp (show i + 2 < 2 ^ 31 by omega)] at e167
  subst e167
  have hPc := hP.sub (ws' := MW mo mw mp d1 d2 w pt) [2, 3, 4] rfl
  have hDc := hD.sub (ws' := MW mo mw mp d1 d2 w pt) [2, 3, 4] (by decide) rfl
  have hKc := hK.sub (tys' := MT d1 d2) [1, 2] rfl
  have hF168 := va_free (wc := MW mo mw mp d1 d2 w pt) hD hS hA [2, 3, 4] rfl
  refine va_calli (va_runV (As := [.int (xs (i + 1)), .int (xs (i + 2))]) (rest := [.int r154]) ⟨hx, hb, hml, hown, hts⟩ (metX5_seconds l dC dI mo mw mp d1 d2 w pt ((xs (i + 1))) ((xs (i + 2))) j hj ej  t154.heap.size) (cwV 2 hts (lw_V q294 q295 q296 q14 q297) rfl rfl rfl (by decide +kernel) ⟨Nat.le_of_ble_eq_true rfl, Nat.le_of_ble_eq_true rfl⟩) ⟨bl_m, va_recv hKc hPc (ci := 2) (q0 := 0) rfl rfl, fun U hU hW => ⟨rfl, by rw [hU], by rw [hU]; exact hPc, va_K.moved hW.alike hKc, hDc.weaken (fun _ _ _ _ => trivial)⟩⟩ rfl rfl hl.1 rfl (lv_room (Nat.le_of_ble_eq_true rfl)) dL_law_168 ⟨Nat.le_trans (show _ ≤ 200 from by omega) (Nat.le_of_ble_eq_true rfl), Nat.le_trans (show _ ≤ 400 from by omega) (Nat.le_of_ble_eq_true rfl)⟩) hS (fun q _ h => hF168 q h) hF168 (fun r168 u168 t168 H168 locs ht hvm hw168 hB168 hz168 hk168 hS => ?_)
  subst ht
  obtain ⟨w1, pt1⟩ := u168
  obtain ⟨hP1, hD1⟩ := hB168
  have hI := hI.kept2 (fun j hj => hk168 _ (hI j hj).1.lt (not_MW (hN j hj) (hI j hj).1.lt))
  have hJ := va_join (wr := DW hd ha dA q1) (w1 := MW mo mw mp d1 d2 w1 pt1) hP hD [2, 3, 4] [0, 1] rfl rfl (by decide) (by decide) hk168 hF168 hP1 hD1
  obtain ⟨hrr, hRR⟩ := hR.step2 hj hw154 hw168 (by rw [g1]) (by rw [g2]) (by omega) (by omega)
  refine lv_icmp_eq (tgt := 393) hx hb dL_law_171 (by decide) (fun c171 => ?_) (fun c171 => ?_)
  · exact nxt q1 sv1 nv1 w1 pt1 _ _ ⟨hRR, hJ.1, hJ.2, hI, hN, hS⟩ ls hl
  · exact absurd hrr c171
set_option maxHeartbeats 4000000 in
set_option maxRecDepth 100000 in
/-- millis -/
theorem law_case2 {p : Program} {l : Launch} {e : Env} {s : State} {m : MethodId} {below : List Frame} {meth : Method} {c : Code} {dC : Nat → ClassId} {dI : Nat → Nat → Nat} {b L : Nat} {xs : Nat → Int32} (hL : L ≤ 288) (C0 : lw_At p s m meth c b L xs) {ep hd ha mo mw mp : Nat} {dA d1 d2 : ClassId} (hE : EPO (dC, dI) ep (LA s) s) (hK : va_K (dC, dI) vwCl (LT dA d1 d2) s) {k i : Nat} (hk : k ≤ 48) (hi : i + 6 ≤ L) {Z : State → Prop}
    (nxt : ∀ (q : Nat → Nat) (sv : Nat → Int64) (nv : Nat → Int32) (w pt : Nat → Int64) (H : Heap) (locs : List Loc), LInv dC dI s hd ha mo mw mp dA d1 d2 q sv nv w pt H locs → ∀ ls : Array Slot, lv_has ls 4 [(0, .ref b), (1, .ref hd), (2, .ref mo), (3, .int (nI i))] → W p l e room_1 s m #[Value.ref b] below meth c H locs (8 + k + 1) (16 + 2 * k + 2) Z (F0 m 393 ls []))
    {q : Nat → Nat} {sv : Nat → Int64} {nv : Nat → Int32} {w pt : Nat → Int64} {H : Heap} {locs : List Loc} (hv : LInv dC dI s hd ha mo mw mp dA d1 d2 q sv nv w pt H locs) {ls : Array Slot} (hl : lv_has ls 4 [(0, .ref b), (1, .ref hd), (2, .ref mo), (3, .int (nI i))]) : W p l e room_1 s m #[Value.ref b] below meth c H locs (8 + k) (16 + 2 * k) Z (F0 m 176 ls []) := by
  obtain ⟨hx, hb, hr, hml, hown, hts0, hX, hbl, hlocks, hgv⟩ := C0
  have hts : ∀ w ∈ lw_all, w.before _ s = true := fun w h => hts0 w (lw_all_tbl h)
  have hA : ∀ q : Nat, s.heap.size ≤ q → LA s q := fun _ h => h
  have hbA : ¬ LA s b := Nat.not_le.mpr hbl
  obtain ⟨hR, hP, hD, hI, hN, hS⟩ := hv
  obtain ⟨j, hj, ej⟩ := n_ix (xs (i + 1))
  obtain ⟨g1, g2, g3, g4⟩ := hR j hj
  refine lv_aload_n hx hb dL_law_176 rfl (lv_at hl 1 rfl) ?_
  refine lv_aload_n hx hb dL_law_177 rfl (lv_at hl 0 rfl) ?_
  refine lv_iload_n hx hb dL_law_178 rfl (lv_at hl 3 rfl) ?_
  refine lv_iconst (v := 1) hx hb dL_law_179 (by decide) ?_
  refine lv_iadd hx hb dL_law_180 ?_
  refine lv_topi (fun v180 e180 => ?_)
  obtain rfl : v180 = nI (i + 1) := n_add_i i 1 e180 rfl
  refine va_sld hx hb hX hbl hbA hS (vp_in_nI (show i + 1 < L by omega) (by omega)) dL_law_181 ?_
  refine lv_topi (fun v181 e181 => ?_)
  rw [nI_clamp (show i + 1 < 2 ^ 31 by omega)] at e181
  subst e181
  refine lv_aload_n hx hb dL_law_182 rfl (lv_at hl 0 rfl) ?_
  refine lv_iload_n hx hb dL_law_183 rfl (lv_at hl 3 rfl) ?_
  refine lv_iconst (v := 2) hx hb dL_law_184 (by decide) ?_
  refine lv_iadd hx hb dL_law_185 ?_
  refine lv_topi (fun v185 e185 => ?_)
  obtain rfl : v185 = nI (i + 2) := n_add_i i 2 e185 rfl
  refine va_sld hx hb hX hbl hbA hS (vp_in_nI (show i + 2 < L by omega) (by omega)) dL_law_186 ?_
  refine lv_topi (fun v186 e186 => ?_)
  rw [nI_clamp (show i + 2 < 2 ^ 31 by omega)] at e186
  subst e186
  have hPc := hP.sub (ws' := DW hd ha dA q) [0, 1] rfl
  have hDc := hD.sub (ws' := DW hd ha dA q) [0, 1] (by decide) rfl
  have hKc := hK.sub (tys' := DT dA) [0] rfl
  have hF187 := va_free (wc := DW hd ha dA q) hD hS hA [0, 1] rfl
  refine va_calli (va_runV (As := [.int (xs (i + 1)), .int (xs (i + 2))]) (rest := []) ⟨hx, hb, hml, hown, hts⟩ (metX0_millis l dC dI hd ha dA q sv nv ((xs (i + 1))) ((xs (i + 2))) j hj ej g3 g4 ep H.size) (cwV 2 hts (lw_V q176 q177 q178 q5 q179) rfl rfl rfl (by decide +kernel) ⟨Nat.le_of_ble_eq_true rfl, Nat.le_of_ble_eq_true rfl⟩) ⟨bl_d, va_recv hKc hPc (ci := 0) (q0 := 0) rfl rfl, fun U hU hW => ⟨rfl, by rw [hU], by rw [hU]; exact hPc, va_K.moved hW.alike hKc, hDc.weaken (fun _ _ _ _ => trivial), by rw [hU]; exact hI, hE.call hS hF187 hU hW.alike⟩⟩ rfl rfl hl.1 rfl (lv_room (Nat.le_of_ble_eq_true rfl)) dL_law_187 ⟨Nat.le_trans (show _ ≤ 200 from by omega) (Nat.le_of_ble_eq_true rfl), Nat.le_trans (show _ ≤ 400 from by omega) (Nat.le_of_ble_eq_true rfl)⟩) hS (fun q _ h => hF187 q h) hF187 (fun r187 u187 t187 H187 locs ht hvm hw187 hB187 hz187 hk187 hS => ?_)
  subst ht
  obtain ⟨q1, sv1, nv1⟩ := u187
  obtain ⟨hP1, hD1, hI, hat⟩ := hB187
  have hJ := va_join (wr := MW mo mw mp d1 d2 w pt) (w1 := DW hd ha dA q1) hP hD [0, 1] [2, 3, 4] rfl rfl (by decide) (by decide) hk187 hF187 hP1 hD1
  have hN := AP.step hE hD hP hN hat
  have hP := hJ.1.sub (ws' := LW hd ha mo mw mp dA d1 d2 q1 w pt) [3, 4, 0, 1, 2] rfl
  have hD := hJ.2.sub (ws' := LW hd ha mo mw mp dA d1 d2 q1 w pt) [3, 4, 0, 1, 2] (by decide) rfl
  have hr := hw187
  refine lv_aload_n hx hb dL_law_190 rfl (lv_at hl 2 rfl) ?_
  refine lv_aload_n hx hb dL_law_191 rfl (lv_at hl 0 rfl) ?_
  refine lv_iload_n hx hb dL_law_192 rfl (lv_at hl 3 rfl) ?_
  refine lv_iconst (v := 1) hx hb dL_law_193 (by decide) ?_
  refine lv_iadd hx hb dL_law_194 ?_
  refine lv_topi (fun v194 e194 => ?_)
  obtain rfl : v194 = nI (i + 1) := n_add_i i 1 e194 rfl
  refine va_sld hx hb hX hbl hbA hS (vp_in_nI (show i + 1 < L by omega) (by omega)) dL_law_195 ?_
  refine lv_topi (fun v195 e195 => ?_)
  rw [nI_clamp (show i + 1 < 2 ^ 31 by omega)] at e195
  subst e195
  refine lv_aload_n hx hb dL_law_196 rfl (lv_at hl 0 rfl) ?_
  refine lv_iload_n hx hb dL_law_197 rfl (lv_at hl 3 rfl) ?_
  refine lv_iconst (v := 2) hx hb dL_law_198 (by decide) ?_
  refine lv_iadd hx hb dL_law_199 ?_
  refine lv_topi (fun v199 e199 => ?_)
  obtain rfl : v199 = nI (i + 2) := n_add_i i 2 e199 rfl
  refine va_sld hx hb hX hbl hbA hS (vp_in_nI (show i + 2 < L by omega) (by omega)) dL_law_200 ?_
  refine lv_topi (fun v200 e200 => ?_)
  rw [nI_clamp (show i + 2 < 2 ^ 31 by omega)] at e200
  subst e200
  have hPc := hP.sub (ws' := MW mo mw mp d1 d2 w pt) [2, 3, 4] rfl
  have hDc := hD.sub (ws' := MW mo mw mp d1 d2 w pt) [2, 3, 4] (by decide) rfl
  have hKc := hK.sub (tys' := MT d1 d2) [1, 2] rfl
  have hF201 := va_free (wc := MW mo mw mp d1 d2 w pt) hD hS hA [2, 3, 4] rfl
  refine va_calli (va_runV (As := [.int (xs (i + 1)), .int (xs (i + 2))]) (rest := [.int r187]) ⟨hx, hb, hml, hown, hts⟩ (metX5_millis l dC dI mo mw mp d1 d2 w pt ((xs (i + 1))) ((xs (i + 2))) j hj ej (g2 ▸ g3) (g2 ▸ g4) t187.heap.size) (cwV 2 hts (lw_V q303 q304 q305 q14 q306) rfl rfl rfl (by decide +kernel) ⟨Nat.le_of_ble_eq_true rfl, Nat.le_of_ble_eq_true rfl⟩) ⟨bl_m, va_recv hKc hPc (ci := 2) (q0 := 0) rfl rfl, fun U hU hW => ⟨rfl, by rw [hU], by rw [hU]; exact hPc, va_K.moved hW.alike hKc, hDc.weaken (fun _ _ _ _ => trivial)⟩⟩ rfl rfl hl.1 rfl (lv_room (Nat.le_of_ble_eq_true rfl)) dL_law_201 ⟨Nat.le_trans (show _ ≤ 200 from by omega) (Nat.le_of_ble_eq_true rfl), Nat.le_trans (show _ ≤ 400 from by omega) (Nat.le_of_ble_eq_true rfl)⟩) hS (fun q _ h => hF201 q h) hF201 (fun r201 u201 t201 H201 locs ht hvm hw201 hB201 hz201 hk201 hS => ?_)
  subst ht
  obtain ⟨w1, pt1⟩ := u201
  obtain ⟨hP1, hD1⟩ := hB201
  have hI := hI.kept2 (fun j hj => hk201 _ (hI j hj).1.lt (not_MW (hN j hj) (hI j hj).1.lt))
  have hJ := va_join (wr := DW hd ha dA q1) (w1 := MW mo mw mp d1 d2 w1 pt1) hP hD [2, 3, 4] [0, 1] rfl rfl (by decide) (by decide) hk201 hF201 hP1 hD1
  obtain ⟨hrr, hRR⟩ := hR.step2 hj hw187 hw201 (by rw [g1, g2]) (by rw [g2]) (by omega) (by omega)
  refine lv_icmp_eq (tgt := 393) hx hb dL_law_204 (by decide) (fun c204 => ?_) (fun c204 => ?_)
  · exact nxt q1 sv1 nv1 w1 pt1 _ _ ⟨hRR, hJ.1, hJ.2, hI, hN, hS⟩ ls hl
  · exact absurd hrr c204
set_option maxHeartbeats 4000000 in
set_option maxRecDepth 100000 in
/-- nanos -/
theorem law_case3 {p : Program} {l : Launch} {e : Env} {s : State} {m : MethodId} {below : List Frame} {meth : Method} {c : Code} {dC : Nat → ClassId} {dI : Nat → Nat → Nat} {b L : Nat} {xs : Nat → Int32} (hL : L ≤ 288) (C0 : lw_At p s m meth c b L xs) {ep hd ha mo mw mp : Nat} {dA d1 d2 : ClassId} (hE : EPO (dC, dI) ep (LA s) s) (hK : va_K (dC, dI) vwCl (LT dA d1 d2) s) {k i : Nat} (hk : k ≤ 48) (hi : i + 6 ≤ L) {Z : State → Prop}
    (nxt : ∀ (q : Nat → Nat) (sv : Nat → Int64) (nv : Nat → Int32) (w pt : Nat → Int64) (H : Heap) (locs : List Loc), LInv dC dI s hd ha mo mw mp dA d1 d2 q sv nv w pt H locs → ∀ ls : Array Slot, lv_has ls 4 [(0, .ref b), (1, .ref hd), (2, .ref mo), (3, .int (nI i))] → W p l e room_1 s m #[Value.ref b] below meth c H locs (8 + k + 1) (16 + 2 * k + 2) Z (F0 m 393 ls []))
    {q : Nat → Nat} {sv : Nat → Int64} {nv : Nat → Int32} {w pt : Nat → Int64} {H : Heap} {locs : List Loc} (hv : LInv dC dI s hd ha mo mw mp dA d1 d2 q sv nv w pt H locs) {ls : Array Slot} (hl : lv_has ls 4 [(0, .ref b), (1, .ref hd), (2, .ref mo), (3, .int (nI i))]) : W p l e room_1 s m #[Value.ref b] below meth c H locs (8 + k) (16 + 2 * k) Z (F0 m 209 ls []) := by
  obtain ⟨hx, hb, hr, hml, hown, hts0, hX, hbl, hlocks, hgv⟩ := C0
  have hts : ∀ w ∈ lw_all, w.before _ s = true := fun w h => hts0 w (lw_all_tbl h)
  have hA : ∀ q : Nat, s.heap.size ≤ q → LA s q := fun _ h => h
  have hbA : ¬ LA s b := Nat.not_le.mpr hbl
  obtain ⟨hR, hP, hD, hI, hN, hS⟩ := hv
  obtain ⟨j, hj, ej⟩ := n_ix (xs (i + 1))
  obtain ⟨g1, g2, g3, g4⟩ := hR j hj
  refine lv_aload_n hx hb dL_law_209 rfl (lv_at hl 1 rfl) ?_
  refine lv_aload_n hx hb dL_law_210 rfl (lv_at hl 0 rfl) ?_
  refine lv_iload_n hx hb dL_law_211 rfl (lv_at hl 3 rfl) ?_
  refine lv_iconst (v := 1) hx hb dL_law_212 (by decide) ?_
  refine lv_iadd hx hb dL_law_213 ?_
  refine lv_topi (fun v213 e213 => ?_)
  obtain rfl : v213 = nI (i + 1) := n_add_i i 1 e213 rfl
  refine va_sld hx hb hX hbl hbA hS (vp_in_nI (show i + 1 < L by omega) (by omega)) dL_law_214 ?_
  refine lv_topi (fun v214 e214 => ?_)
  rw [nI_clamp (show i + 1 < 2 ^ 31 by omega)] at e214
  subst e214
  refine lv_aload_n hx hb dL_law_215 rfl (lv_at hl 0 rfl) ?_
  refine lv_iload_n hx hb dL_law_216 rfl (lv_at hl 3 rfl) ?_
  refine lv_iconst (v := 2) hx hb dL_law_217 (by decide) ?_
  refine lv_iadd hx hb dL_law_218 ?_
  refine lv_topi (fun v218 e218 => ?_)
  obtain rfl : v218 = nI (i + 2) := n_add_i i 2 e218 rfl
  refine va_sld hx hb hX hbl hbA hS (vp_in_nI (show i + 2 < L by omega) (by omega)) dL_law_219 ?_
  refine lv_topi (fun v219 e219 => ?_)
  rw [nI_clamp (show i + 2 < 2 ^ 31 by omega)] at e219
  subst e219
  have hPc := hP.sub (ws' := DW hd ha dA q) [0, 1] rfl
  have hDc := hD.sub (ws' := DW hd ha dA q) [0, 1] (by decide) rfl
  have hKc := hK.sub (tys' := DT dA) [0] rfl
  have hF220 := va_free (wc := DW hd ha dA q) hD hS hA [0, 1] rfl
  refine va_calli (va_runV (As := [.int (xs (i + 1)), .int (xs (i + 2))]) (rest := []) ⟨hx, hb, hml, hown, hts⟩ (metX0_nanos l dC dI hd ha dA q sv nv ((xs (i + 1))) ((xs (i + 2))) j hj ej g3 g4 ep H.size) (cwV 2 hts (lw_V q186 q187 q188 q5 q189) rfl rfl rfl (by decide +kernel) ⟨Nat.le_of_ble_eq_true rfl, Nat.le_of_ble_eq_true rfl⟩) ⟨bl_d, va_recv hKc hPc (ci := 0) (q0 := 0) rfl rfl, fun U hU hW => ⟨rfl, by rw [hU], by rw [hU]; exact hPc, va_K.moved hW.alike hKc, hDc.weaken (fun _ _ _ _ => trivial), by rw [hU]; exact hI, hE.call hS hF220 hU hW.alike⟩⟩ rfl rfl hl.1 rfl (lv_room (Nat.le_of_ble_eq_true rfl)) dL_law_220 ⟨Nat.le_trans (show _ ≤ 200 from by omega) (Nat.le_of_ble_eq_true rfl), Nat.le_trans (show _ ≤ 400 from by omega) (Nat.le_of_ble_eq_true rfl)⟩) hS (fun q _ h => hF220 q h) hF220 (fun r220 u220 t220 H220 locs ht hvm hw220 hB220 hz220 hk220 hS => ?_)
  subst ht
  obtain ⟨q1, sv1, nv1⟩ := u220
  obtain ⟨hP1, hD1, hI, hat⟩ := hB220
  have hJ := va_join (wr := MW mo mw mp d1 d2 w pt) (w1 := DW hd ha dA q1) hP hD [0, 1] [2, 3, 4] rfl rfl (by decide) (by decide) hk220 hF220 hP1 hD1
  have hN := AP.step hE hD hP hN hat
  have hP := hJ.1.sub (ws' := LW hd ha mo mw mp dA d1 d2 q1 w pt) [3, 4, 0, 1, 2] rfl
  have hD := hJ.2.sub (ws' := LW hd ha mo mw mp dA d1 d2 q1 w pt) [3, 4, 0, 1, 2] (by decide) rfl
  have hr := hw220
  refine lv_aload_n hx hb dL_law_223 rfl (lv_at hl 2 rfl) ?_
  refine lv_aload_n hx hb dL_law_224 rfl (lv_at hl 0 rfl) ?_
  refine lv_iload_n hx hb dL_law_225 rfl (lv_at hl 3 rfl) ?_
  refine lv_iconst (v := 1) hx hb dL_law_226 (by decide) ?_
  refine lv_iadd hx hb dL_law_227 ?_
  refine lv_topi (fun v227 e227 => ?_)
  obtain rfl : v227 = nI (i + 1) := n_add_i i 1 e227 rfl
  refine va_sld hx hb hX hbl hbA hS (vp_in_nI (show i + 1 < L by omega) (by omega)) dL_law_228 ?_
  refine lv_topi (fun v228 e228 => ?_)
  rw [nI_clamp (show i + 1 < 2 ^ 31 by omega)] at e228
  subst e228
  refine lv_aload_n hx hb dL_law_229 rfl (lv_at hl 0 rfl) ?_
  refine lv_iload_n hx hb dL_law_230 rfl (lv_at hl 3 rfl) ?_
  refine lv_iconst (v := 2) hx hb dL_law_231 (by decide) ?_
  refine lv_iadd hx hb dL_law_232 ?_
  refine lv_topi (fun v232 e232 => ?_)
  obtain rfl : v232 = nI (i + 2) := n_add_i i 2 e232 rfl
  refine va_sld hx hb hX hbl hbA hS (vp_in_nI (show i + 2 < L by omega) (by omega)) dL_law_233 ?_
  refine lv_topi (fun v233 e233 => ?_)
  rw [nI_clamp (show i + 2 < 2 ^ 31 by omega)] at e233
  subst e233
  have hPc := hP.sub (ws' := MW mo mw mp d1 d2 w pt) [2, 3, 4] rfl
  have hDc := hD.sub (ws' := MW mo mw mp d1 d2 w pt) [2, 3, 4] (by decide) rfl
  have hKc := hK.sub (tys' := MT d1 d2) [1, 2] rfl
  have hF234 := va_free (wc := MW mo mw mp d1 d2 w pt) hD hS hA [2, 3, 4] rfl
  refine va_calli (va_runV (As := [.int (xs (i + 1)), .int (xs (i + 2))]) (rest := [.int r220]) ⟨hx, hb, hml, hown, hts⟩ (metX5_nanos l dC dI mo mw mp d1 d2 w pt ((xs (i + 1))) ((xs (i + 2))) j hj ej (g2 ▸ g3) (g2 ▸ g4) t220.heap.size) (cwV 2 hts (lw_V q308 q309 q310 q14 q311) rfl rfl rfl (by decide +kernel) ⟨Nat.le_of_ble_eq_true rfl, Nat.le_of_ble_eq_true rfl⟩) ⟨bl_m, va_recv hKc hPc (ci := 2) (q0 := 0) rfl rfl, fun U hU hW => ⟨rfl, by rw [hU], by rw [hU]; exact hPc, va_K.moved hW.alike hKc, hDc.weaken (fun _ _ _ _ => trivial)⟩⟩ rfl rfl hl.1 rfl (lv_room (Nat.le_of_ble_eq_true rfl)) dL_law_234 ⟨Nat.le_trans (show _ ≤ 200 from by omega) (Nat.le_of_ble_eq_true rfl), Nat.le_trans (show _ ≤ 400 from by omega) (Nat.le_of_ble_eq_true rfl)⟩) hS (fun q _ h => hF234 q h) hF234 (fun r234 u234 t234 H234 locs ht hvm hw234 hB234 hz234 hk234 hS => ?_)
  subst ht
  obtain ⟨w1, pt1⟩ := u234
  obtain ⟨hP1, hD1⟩ := hB234
  have hI := hI.kept2 (fun j hj => hk234 _ (hI j hj).1.lt (not_MW (hN j hj) (hI j hj).1.lt))
  have hJ := va_join (wr := DW hd ha dA q1) (w1 := MW mo mw mp d1 d2 w1 pt1) hP hD [2, 3, 4] [0, 1] rfl rfl (by decide) (by decide) hk234 hF234 hP1 hD1
  obtain ⟨hrr, hRR⟩ := hR.step2 hj hw220 hw234 (by rw [g1, g2]) (by rw [g2]) (by omega) (by omega)
  refine lv_icmp_eq (tgt := 393) hx hb dL_law_237 (by decide) (fun c237 => ?_) (fun c237 => ?_)
  · exact nxt q1 sv1 nv1 w1 pt1 _ _ ⟨hRR, hJ.1, hJ.2, hI, hN, hS⟩ ls hl
  · exact absurd hrr c237
set_option maxHeartbeats 4000000 in
set_option maxRecDepth 100000 in
/-- a point by its milliseconds -/
theorem law_case4 {p : Program} {l : Launch} {e : Env} {s : State} {m : MethodId} {below : List Frame} {meth : Method} {c : Code} {dC : Nat → ClassId} {dI : Nat → Nat → Nat} {b L : Nat} {xs : Nat → Int32} (hL : L ≤ 288) (C0 : lw_At p s m meth c b L xs) {ep hd ha mo mw mp : Nat} {dA d1 d2 : ClassId} (hE : EPO (dC, dI) ep (LA s) s) (hK : va_K (dC, dI) vwCl (LT dA d1 d2) s) {k i : Nat} (hk : k ≤ 48) (hi : i + 6 ≤ L) {Z : State → Prop}
    (nxt : ∀ (q : Nat → Nat) (sv : Nat → Int64) (nv : Nat → Int32) (w pt : Nat → Int64) (H : Heap) (locs : List Loc), LInv dC dI s hd ha mo mw mp dA d1 d2 q sv nv w pt H locs → ∀ ls : Array Slot, lv_has ls 4 [(0, .ref b), (1, .ref hd), (2, .ref mo), (3, .int (nI i))] → W p l e room_1 s m #[Value.ref b] below meth c H locs (8 + k + 1) (16 + 2 * k + 2) Z (F0 m 393 ls []))
    {q : Nat → Nat} {sv : Nat → Int64} {nv : Nat → Int32} {w pt : Nat → Int64} {H : Heap} {locs : List Loc} (hv : LInv dC dI s hd ha mo mw mp dA d1 d2 q sv nv w pt H locs) {ls : Array Slot} (hl : lv_has ls 4 [(0, .ref b), (1, .ref hd), (2, .ref mo), (3, .int (nI i))]) : W p l e room_1 s m #[Value.ref b] below meth c H locs (8 + k) (16 + 2 * k) Z (F0 m 242 ls []) := by
  obtain ⟨hx, hb, hr, hml, hown, hts0, hX, hbl, hlocks, hgv⟩ := C0
  have hts : ∀ w ∈ lw_all, w.before _ s = true := fun w h => hts0 w (lw_all_tbl h)
  have hA : ∀ q : Nat, s.heap.size ≤ q → LA s q := fun _ h => h
  have hbA : ¬ LA s b := Nat.not_le.mpr hbl
  obtain ⟨hR, hP, hD, hI, hN, hS⟩ := hv
  obtain ⟨j, hj, ej⟩ := n_ix (xs (i + 1))
  obtain ⟨g1, g2, g3, g4⟩ := hR j hj
  refine lv_aload_n hx hb dL_law_242 rfl (lv_at hl 1 rfl) ?_
  refine lv_aload_n hx hb dL_law_243 rfl (lv_at hl 0 rfl) ?_
  refine lv_iload_n hx hb dL_law_244 rfl (lv_at hl 3 rfl) ?_
  refine lv_iconst (v := 1) hx hb dL_law_245 (by decide) ?_
  refine lv_iadd hx hb dL_law_246 ?_
  refine lv_topi (fun v246 e246 => ?_)
  obtain rfl : v246 = nI (i + 1) := n_add_i i 1 e246 rfl
  refine va_sld hx hb hX hbl hbA hS (vp_in_nI (show i + 1 < L by omega) (by omega)) dL_law_247 ?_
  refine lv_topi (fun v247 e247 => ?_)
  rw [nI_clamp (show i + 1 < 2 ^ 31 by omega)] at e247
  subst e247
  refine lv_aload_n hx hb dL_law_248 rfl (lv_at hl 0 rfl) ?_
  refine lv_iload_n hx hb dL_law_249 rfl (lv_at hl 3 rfl) ?_
  refine lv_iconst (v := 2) hx hb dL_law_250 (by decide) ?_
  refine lv_iadd hx hb dL_law_251 ?_
  refine lv_topi (fun v251 e251 => ?_)
  obtain rfl : v251 = nI (i + 2) := n_add_i i 2 e251 rfl
  refine va_sld hx hb hX hbl hbA hS (vp_in_nI (show i + 2 < L by omega) (by omega)) dL_law_252 ?_
  refine lv_topi (fun v252 e252 => ?_)
  rw [nI_clamp (show i + 2 < 2 ^ 31 by omega)] at e252
  subst e252
  refine lv_aload_n hx hb dL_law_253 rfl (lv_at hl 0 rfl) ?_
  refine lv_iload_n hx hb dL_law_254 rfl (lv_at hl 3 rfl) ?_
  refine lv_iconst (v := 3) hx hb dL_law_255 (by decide) ?_
  refine lv_iadd hx hb dL_law_256 ?_
  refine lv_topi (fun v256 e256 => ?_)
  obtain rfl : v256 = nI (i + 3) := n_add_i i 3 e256 rfl
  refine va_sld hx hb hX hbl hbA hS (vp_in_nI (show i + 3 < L by omega) (by omega)) dL_law_257 ?_
  refine lv_topi (fun v257 e257 => ?_)
  rw [nI_clamp (show i + 3 < 2 ^ 31 by omega)] at e257
  subst e257
  have hPc := hP.sub (ws' := DW hd ha dA q) [0, 1] rfl
  have hDc := hD.sub (ws' := DW hd ha dA q) [0, 1] (by decide) rfl
  have hKc := hK.sub (tys' := DT dA) [0] rfl
  have hF258 := va_free (wc := DW hd ha dA q) hD hS hA [0, 1] rfl
  refine va_callv (va_runV (As := [.int (xs (i + 1)), .int (xs (i + 2)), .int (xs (i + 3))]) (rest := []) ⟨hx, hb, hml, hown, hts⟩ (metX0_ofMilli l dC dI hd ha dA q sv nv ((xs (i + 1))) ((xs (i + 2))) ((xs (i + 3))) j hj ej  ep H.size) (cwV 3 hts (lw_V q194 q195 q196 q5 q197) rfl rfl rfl (by decide +kernel) ⟨Nat.le_of_ble_eq_true rfl, Nat.le_of_ble_eq_true rfl⟩) ⟨bl_d, va_recv hKc hPc (ci := 0) (q0 := 0) rfl rfl, fun U hU hW => ⟨rfl, by rw [hU], by rw [hU]; exact hPc, va_K.moved hW.alike hKc, hDc.weaken (fun _ _ _ _ => trivial), by rw [hU]; exact hI, hE.call hS hF258 hU hW.alike⟩⟩ rfl rfl hl.1 rfl (lv_room (Nat.le_of_ble_eq_true rfl)) dL_law_258 ⟨Nat.le_trans (show _ ≤ 200 from by omega) (Nat.le_of_ble_eq_true rfl), Nat.le_trans (show _ ≤ 400 from by omega) (Nat.le_of_ble_eq_true rfl)⟩) hS (fun q _ h => hF258 q h) hF258 (fun u258 t258 H258 locs ht hvm hw258 hB258 hz258 hk258 hS => ?_)
  subst ht
  obtain ⟨q1, sv1, nv1⟩ := u258
  obtain ⟨hP1, hD1, hI, hat⟩ := hB258
  have hJ := va_join (wr := MW mo mw mp d1 d2 w pt) (w1 := DW hd ha dA q1) hP hD [0, 1] [2, 3, 4] rfl rfl (by decide) (by decide) hk258 hF258 hP1 hD1
  have hN := AP.step hE hD hP hN hat
  have hP := hJ.1.sub (ws' := LW hd ha mo mw mp dA d1 d2 q1 w pt) [3, 4, 0, 1, 2] rfl
  have hD := hJ.2.sub (ws' := LW hd ha mo mw mp dA d1 d2 q1 w pt) [3, 4, 0, 1, 2] (by decide) rfl
  refine lv_aload_n hx hb dL_law_261 rfl (lv_at hl 2 rfl) ?_
  refine lv_aload_n hx hb dL_law_262 rfl (lv_at hl 0 rfl) ?_
  refine lv_iload_n hx hb dL_law_263 rfl (lv_at hl 3 rfl) ?_
  refine lv_iconst (v := 1) hx hb dL_law_264 (by decide) ?_
  refine lv_iadd hx hb dL_law_265 ?_
  refine lv_topi (fun v265 e265 => ?_)
  obtain rfl : v265 = nI (i + 1) := n_add_i i 1 e265 rfl
  refine va_sld hx hb hX hbl hbA hS (vp_in_nI (show i + 1 < L by omega) (by omega)) dL_law_266 ?_
  refine lv_topi (fun v266 e266 => ?_)
  rw [nI_clamp (show i + 1 < 2 ^ 31 by omega)] at e266
  subst e266
  refine lv_aload_n hx hb dL_law_267 rfl (lv_at hl 0 rfl) ?_
  refine lv_iload_n hx hb dL_law_268 rfl (lv_at hl 3 rfl) ?_
  refine lv_iconst (v := 2) hx hb dL_law_269 (by decide) ?_
  refine lv_iadd hx hb dL_law_270 ?_
  refine lv_topi (fun v270 e270 => ?_)
  obtain rfl : v270 = nI (i + 2) := n_add_i i 2 e270 rfl
  refine va_sld hx hb hX hbl hbA hS (vp_in_nI (show i + 2 < L by omega) (by omega)) dL_law_271 ?_
  refine lv_topi (fun v271 e271 => ?_)
  rw [nI_clamp (show i + 2 < 2 ^ 31 by omega)] at e271
  subst e271
  refine lv_aload_n hx hb dL_law_272 rfl (lv_at hl 0 rfl) ?_
  refine lv_iload_n hx hb dL_law_273 rfl (lv_at hl 3 rfl) ?_
  refine lv_iconst (v := 3) hx hb dL_law_274 (by decide) ?_
  refine lv_iadd hx hb dL_law_275 ?_
  refine lv_topi (fun v275 e275 => ?_)
  obtain rfl : v275 = nI (i + 3) := n_add_i i 3 e275 rfl
  refine va_sld hx hb hX hbl hbA hS (vp_in_nI (show i + 3 < L by omega) (by omega)) dL_law_276 ?_
  refine lv_topi (fun v276 e276 => ?_)
  rw [nI_clamp (show i + 3 < 2 ^ 31 by omega)] at e276
  subst e276
  have hPc := hP.sub (ws' := MW mo mw mp d1 d2 w pt) [2, 3, 4] rfl
  have hDc := hD.sub (ws' := MW mo mw mp d1 d2 w pt) [2, 3, 4] (by decide) rfl
  have hKc := hK.sub (tys' := MT d1 d2) [1, 2] rfl
  have hF277 := va_free (wc := MW mo mw mp d1 d2 w pt) hD hS hA [2, 3, 4] rfl
  refine va_callv (va_runV (As := [.int (xs (i + 1)), .int (xs (i + 2)), .int (xs (i + 3))]) (rest := []) ⟨hx, hb, hml, hown, hts⟩ (metX5_ofMilli l dC dI mo mw mp d1 d2 w pt ((xs (i + 1))) ((xs (i + 2))) ((xs (i + 3))) j hj ej  t258.heap.size) (cwV 3 hts (lw_V q312 q313 q314 q14 q315) rfl rfl rfl (by decide +kernel) ⟨Nat.le_of_ble_eq_true rfl, Nat.le_of_ble_eq_true rfl⟩) ⟨bl_m, va_recv hKc hPc (ci := 2) (q0 := 0) rfl rfl, fun U hU hW => ⟨rfl, by rw [hU], by rw [hU]; exact hPc, va_K.moved hW.alike hKc, hDc.weaken (fun _ _ _ _ => trivial)⟩⟩ rfl rfl hl.1 rfl (lv_room (Nat.le_of_ble_eq_true rfl)) dL_law_277 ⟨Nat.le_trans (show _ ≤ 200 from by omega) (Nat.le_of_ble_eq_true rfl), Nat.le_trans (show _ ≤ 400 from by omega) (Nat.le_of_ble_eq_true rfl)⟩) hS (fun q _ h => hF277 q h) hF277 (fun u277 t277 H277 locs ht hvm hw277 hB277 hz277 hk277 hS => ?_)
  subst ht
  obtain ⟨w1, pt1⟩ := u277
  obtain ⟨hP1, hD1⟩ := hB277
  have hI := hI.kept2 (fun j hj => hk277 _ (hI j hj).1.lt (not_MW (hN j hj) (hI j hj).1.lt))
  have hJ := va_join (wr := DW hd ha dA q1) (w1 := MW mo mw mp d1 d2 w1 pt1) hP hD [2, 3, 4] [0, 1] rfl rfl (by decide) (by decide) hk277 hF277 hP1 hD1
  refine lv_goto (tgt := 393) hx hb dL_law_280 (by decide) ?_
  exact nxt q1 sv1 nv1 w1 pt1 _ _ ⟨hR.step hw258 hw277 rfl rfl (by omega) (by omega), hJ.1, hJ.2, hI, hN, hS⟩ ls hl
set_option maxHeartbeats 4000000 in
set_option maxRecDepth 100000 in
/-- whole -/
theorem law_case5 {p : Program} {l : Launch} {e : Env} {s : State} {m : MethodId} {below : List Frame} {meth : Method} {c : Code} {dC : Nat → ClassId} {dI : Nat → Nat → Nat} {b L : Nat} {xs : Nat → Int32} (hL : L ≤ 288) (C0 : lw_At p s m meth c b L xs) {ep hd ha mo mw mp : Nat} {dA d1 d2 : ClassId} (hE : EPO (dC, dI) ep (LA s) s) (hK : va_K (dC, dI) vwCl (LT dA d1 d2) s) {k i : Nat} (hk : k ≤ 48) (hi : i + 6 ≤ L) {Z : State → Prop}
    (nxt : ∀ (q : Nat → Nat) (sv : Nat → Int64) (nv : Nat → Int32) (w pt : Nat → Int64) (H : Heap) (locs : List Loc), LInv dC dI s hd ha mo mw mp dA d1 d2 q sv nv w pt H locs → ∀ ls : Array Slot, lv_has ls 4 [(0, .ref b), (1, .ref hd), (2, .ref mo), (3, .int (nI i))] → W p l e room_1 s m #[Value.ref b] below meth c H locs (8 + k + 1) (16 + 2 * k + 2) Z (F0 m 393 ls []))
    {q : Nat → Nat} {sv : Nat → Int64} {nv : Nat → Int32} {w pt : Nat → Int64} {H : Heap} {locs : List Loc} (hv : LInv dC dI s hd ha mo mw mp dA d1 d2 q sv nv w pt H locs) {ls : Array Slot} (hl : lv_has ls 4 [(0, .ref b), (1, .ref hd), (2, .ref mo), (3, .int (nI i))]) : W p l e room_1 s m #[Value.ref b] below meth c H locs (8 + k) (16 + 2 * k) Z (F0 m 283 ls []) := by
  obtain ⟨hx, hb, hr, hml, hown, hts0, hX, hbl, hlocks, hgv⟩ := C0
  have hts : ∀ w ∈ lw_all, w.before _ s = true := fun w h => hts0 w (lw_all_tbl h)
  have hA : ∀ q : Nat, s.heap.size ≤ q → LA s q := fun _ h => h
  have hbA : ¬ LA s b := Nat.not_le.mpr hbl
  obtain ⟨hR, hP, hD, hI, hN, hS⟩ := hv
  obtain ⟨j, hj, ej⟩ := n_ix (xs (i + 1))
  obtain ⟨g1, g2, g3, g4⟩ := hR j hj
  refine lv_aload_n hx hb dL_law_283 rfl (lv_at hl 1 rfl) ?_
  refine lv_aload_n hx hb dL_law_284 rfl (lv_at hl 0 rfl) ?_
  refine lv_iload_n hx hb dL_law_285 rfl (lv_at hl 3 rfl) ?_
  refine lv_iconst (v := 1) hx hb dL_law_286 (by decide) ?_
  refine lv_iadd hx hb dL_law_287 ?_
  refine lv_topi (fun v287 e287 => ?_)
  obtain rfl : v287 = nI (i + 1) := n_add_i i 1 e287 rfl
  refine va_sld hx hb hX hbl hbA hS (vp_in_nI (show i + 1 < L by omega) (by omega)) dL_law_288 ?_
  refine lv_topi (fun v288 e288 => ?_)
  rw [nI_clamp (show i + 1 < 2 ^ 31 by omega)] at e288
  subst e288
  have hPc := hP.sub (ws' := DW hd ha dA q) [0, 1] rfl
  have hDc := hD.sub (ws' := DW hd ha dA q) [0, 1] (by decide) rfl
  have hKc := hK.sub (tys' := DT dA) [0] rfl
  have hPc := hPc.app (va_P1 (hI j hj).1)
  refine vp_callSl (W.runV (As := [.int (xs (i + 1))]) (rest := []) ⟨hx, hb, hml, hown, hts⟩ (metX0_whole l dC dI hd ha dA q sv nv ((xs (i + 1))) j hj ej) (cwV 1 hts (lw_V q202 q203 q204 q5 q205) rfl rfl rfl (by decide +kernel) ⟨Nat.le_of_ble_eq_true rfl, Nat.le_of_ble_eq_true rfl⟩) ⟨bl_rd, va_recv hKc hPc (ci := 0) (q0 := 0) rfl rfl, fun U hU hW => ⟨rfl, va_K.moved hW.alike hKc, by rw [hU]; exact hPc⟩⟩ rfl rfl hl.1 rfl (lv_room (Nat.le_of_ble_eq_true rfl)) dL_law_289 ⟨Nat.le_trans (show _ ≤ 200 from by omega) (Nat.le_of_ble_eq_true rfl), Nat.le_trans (show _ ≤ 400 from by omega) (Nat.le_of_ble_eq_true rfl)⟩) (fun r289 hr289 => ?_)
  have hr289 : r289 = sv j := hr289
  refine lv_aload_n hx hb dL_law_292 rfl (lv_at hl 2 rfl) ?_
  refine lv_aload_n hx hb dL_law_293 rfl (lv_at hl 0 rfl) ?_
  refine lv_iload_n hx hb dL_law_294 rfl (lv_at hl 3 rfl) ?_
  refine lv_iconst (v := 1) hx hb dL_law_295 (by decide) ?_
  refine lv_iadd hx hb dL_law_296 ?_
  refine lv_topi (fun v296 e296 => ?_)
  obtain rfl : v296 = nI (i + 1) := n_add_i i 1 e296 rfl
  refine va_sld hx hb hX hbl hbA hS (vp_in_nI (show i + 1 < L by omega) (by omega)) dL_law_297 ?_
  refine lv_topi (fun v297 e297 => ?_)
  rw [nI_clamp (show i + 1 < 2 ^ 31 by omega)] at e297
  subst e297
  have hPc := hP.sub (ws' := MW mo mw mp d1 d2 w pt) [2, 3, 4] rfl
  have hDc := hD.sub (ws' := MW mo mw mp d1 d2 w pt) [2, 3, 4] (by decide) rfl
  have hKc := hK.sub (tys' := MT d1 d2) [1, 2] rfl
  refine vp_callSl (W.runV (As := [.int (xs (i + 1))]) (rest := [.long r289]) ⟨hx, hb, hml, hown, hts⟩ (metX5_whole l dC dI mo mw mp d1 d2 w pt ((xs (i + 1))) j hj ej) (cwV 1 hts (lw_V q317 q318 q319 q14 q320) rfl rfl rfl (by decide +kernel) ⟨Nat.le_of_ble_eq_true rfl, Nat.le_of_ble_eq_true rfl⟩) ⟨bl_rd, va_recv hKc hPc (ci := 2) (q0 := 0) rfl rfl, fun U hU hW => ⟨rfl, va_K.moved hW.alike hKc, by rw [hU]; exact hPc⟩⟩ rfl rfl hl.1 rfl (lv_room (Nat.le_of_ble_eq_true rfl)) dL_law_298 ⟨Nat.le_trans (show _ ≤ 200 from by omega) (Nat.le_of_ble_eq_true rfl), Nat.le_trans (show _ ≤ 400 from by omega) (Nat.le_of_ble_eq_true rfl)⟩) (fun r298 hr298 => ?_)
  have hr298 : r298 = w j := hr298
  refine W.lcmp hx hb dL_law_301 ?_
  refine lv_if_eq (tgt := 393) hx hb dL_law_302 (by decide) (fun c302 => ?_) (fun c302 => ?_)
  · have k302 := n_eq.mp c302
    refine W.widen (k := 8 + k + 1) (n := 16 + 2 * k + 2) (by omega) (by omega) ?_
    exact nxt q sv nv w pt _ _ ⟨hR, hP, hD, hI, hN, hS⟩ ls hl
  · have k302 := mt n_eq.mpr c302
    exact absurd (show r289.toInt = r298.toInt from by rw [hr289, hr298, g1]) k302
set_option maxHeartbeats 4000000 in
set_option maxRecDepth 100000 in
/-- nano -/
theorem law_case6 {p : Program} {l : Launch} {e : Env} {s : State} {m : MethodId} {below : List Frame} {meth : Method} {c : Code} {dC : Nat → ClassId} {dI : Nat → Nat → Nat} {b L : Nat} {xs : Nat → Int32} (hL : L ≤ 288) (C0 : lw_At p s m meth c b L xs) {ep hd ha mo mw mp : Nat} {dA d1 d2 : ClassId} (hE : EPO (dC, dI) ep (LA s) s) (hK : va_K (dC, dI) vwCl (LT dA d1 d2) s) {k i : Nat} (hk : k ≤ 48) (hi : i + 6 ≤ L) {Z : State → Prop}
    (nxt : ∀ (q : Nat → Nat) (sv : Nat → Int64) (nv : Nat → Int32) (w pt : Nat → Int64) (H : Heap) (locs : List Loc), LInv dC dI s hd ha mo mw mp dA d1 d2 q sv nv w pt H locs → ∀ ls : Array Slot, lv_has ls 4 [(0, .ref b), (1, .ref hd), (2, .ref mo), (3, .int (nI i))] → W p l e room_1 s m #[Value.ref b] below meth c H locs (8 + k + 1) (16 + 2 * k + 2) Z (F0 m 393 ls []))
    {q : Nat → Nat} {sv : Nat → Int64} {nv : Nat → Int32} {w pt : Nat → Int64} {H : Heap} {locs : List Loc} (hv : LInv dC dI s hd ha mo mw mp dA d1 d2 q sv nv w pt H locs) {ls : Array Slot} (hl : lv_has ls 4 [(0, .ref b), (1, .ref hd), (2, .ref mo), (3, .int (nI i))]) : W p l e room_1 s m #[Value.ref b] below meth c H locs (8 + k) (16 + 2 * k) Z (F0 m 307 ls []) := by
  obtain ⟨hx, hb, hr, hml, hown, hts0, hX, hbl, hlocks, hgv⟩ := C0
  have hts : ∀ w ∈ lw_all, w.before _ s = true := fun w h => hts0 w (lw_all_tbl h)
  have hA : ∀ q : Nat, s.heap.size ≤ q → LA s q := fun _ h => h
  have hbA : ¬ LA s b := Nat.not_le.mpr hbl
  obtain ⟨hR, hP, hD, hI, hN, hS⟩ := hv
  obtain ⟨j, hj, ej⟩ := n_ix (xs (i + 1))
  obtain ⟨g1, g2, g3, g4⟩ := hR j hj
  refine lv_aload_n hx hb dL_law_307 rfl (lv_at hl 1 rfl) ?_
  refine lv_aload_n hx hb dL_law_308 rfl (lv_at hl 0 rfl) ?_
  refine lv_iload_n hx hb dL_law_309 rfl (lv_at hl 3 rfl) ?_
  refine lv_iconst (v := 1) hx hb dL_law_310 (by decide) ?_
  refine lv_iadd hx hb dL_law_311 ?_
  refine lv_topi (fun v311 e311 => ?_)
  obtain rfl : v311 = nI (i + 1) := n_add_i i 1 e311 rfl
  refine va_sld hx hb hX hbl hbA hS (vp_in_nI (show i + 1 < L by omega) (by omega)) dL_law_312 ?_
  refine lv_topi (fun v312 e312 => ?_)
  rw [nI_clamp (show i + 1 < 2 ^ 31 by omega)] at e312
  subst e312
  have hPc := hP.sub (ws' := DW hd ha dA q) [0, 1] rfl
  have hDc := hD.sub (ws' := DW hd ha dA q) [0, 1] (by decide) rfl
  have hKc := hK.sub (tys' := DT dA) [0] rfl
  have hPc := hPc.app (va_P1 (hI j hj).1)
  refine vp_callSi (W.runV (As := [.int (xs (i + 1))]) (rest := []) ⟨hx, hb, hml, hown, hts⟩ (metX0_nano l dC dI hd ha dA q sv nv ((xs (i + 1))) j hj ej) (cwV 1 hts (lw_V q206 q207 q208 q5 q209) rfl rfl rfl (by decide +kernel) ⟨Nat.le_of_ble_eq_true rfl, Nat.le_of_ble_eq_true rfl⟩) ⟨bl_rd, va_recv hKc hPc (ci := 0) (q0 := 0) rfl rfl, fun U hU hW => ⟨rfl, va_K.moved hW.alike hKc, by rw [hU]; exact hPc⟩⟩ rfl rfl hl.1 rfl (lv_room (Nat.le_of_ble_eq_true rfl)) dL_law_313 ⟨Nat.le_trans (show _ ≤ 200 from by omega) (Nat.le_of_ble_eq_true rfl), Nat.le_trans (show _ ≤ 400 from by omega) (Nat.le_of_ble_eq_true rfl)⟩) (fun r313 hr313 => ?_)
  have hr313 : r313 = nv j := hr313
  refine lv_aload_n hx hb dL_law_316 rfl (lv_at hl 2 rfl) ?_
  refine lv_aload_n hx hb dL_law_317 rfl (lv_at hl 0 rfl) ?_
  refine lv_iload_n hx hb dL_law_318 rfl (lv_at hl 3 rfl) ?_
  refine lv_iconst (v := 1) hx hb dL_law_319 (by decide) ?_
  refine lv_iadd hx hb dL_law_320 ?_
  refine lv_topi (fun v320 e320 => ?_)
  obtain rfl : v320 = nI (i + 1) := n_add_i i 1 e320 rfl
  refine va_sld hx hb hX hbl hbA hS (vp_in_nI (show i + 1 < L by omega) (by omega)) dL_law_321 ?_
  refine lv_topi (fun v321 e321 => ?_)
  rw [nI_clamp (show i + 1 < 2 ^ 31 by omega)] at e321
  subst e321
  have hPc := hP.sub (ws' := MW mo mw mp d1 d2 w pt) [2, 3, 4] rfl
  have hDc := hD.sub (ws' := MW mo mw mp d1 d2 w pt) [2, 3, 4] (by decide) rfl
  have hKc := hK.sub (tys' := MT d1 d2) [1, 2] rfl
  refine vp_callSi (W.runV (As := [.int (xs (i + 1))]) (rest := [.int r313]) ⟨hx, hb, hml, hown, hts⟩ (metX5_nano l dC dI mo mw mp d1 d2 w pt ((xs (i + 1))) j hj ej (g2 ▸ g3) (g2 ▸ g4)) (cwV 1 hts (lw_V q321 q322 q323 q14 q324) rfl rfl rfl (by decide +kernel) ⟨Nat.le_of_ble_eq_true rfl, Nat.le_of_ble_eq_true rfl⟩) ⟨bl_rd, va_recv hKc hPc (ci := 2) (q0 := 0) rfl rfl, fun U hU hW => ⟨rfl, va_K.moved hW.alike hKc, by rw [hU]; exact hPc⟩⟩ rfl rfl hl.1 rfl (lv_room (Nat.le_of_ble_eq_true rfl)) dL_law_322 ⟨Nat.le_trans (show _ ≤ 200 from by omega) (Nat.le_of_ble_eq_true rfl), Nat.le_trans (show _ ≤ 400 from by omega) (Nat.le_of_ble_eq_true rfl)⟩) (fun r322 hr322 => ?_)
  have hr322 : r322.toInt = (pt j).toInt := hr322
  refine lv_icmp_eq (tgt := 393) hx hb dL_law_325 (by decide) (fun c325 => ?_) (fun c325 => ?_)
  · refine W.widen (k := 8 + k + 1) (n := 16 + 2 * k + 2) (by omega) (by omega) ?_
    exact nxt q sv nv w pt _ _ ⟨hR, hP, hD, hI, hN, hS⟩ ls hl
  · exact absurd (Int32.toInt_inj.mp (show r313.toInt = r322.toInt from by rw [hr313, hr322, g2])) c325
set_option maxHeartbeats 4000000 in
set_option maxRecDepth 100000 in
/-- before -/
theorem law_case7 {p : Program} {l : Launch} {e : Env} {s : State} {m : MethodId} {below : List Frame} {meth : Method} {c : Code} {dC : Nat → ClassId} {dI : Nat → Nat → Nat} {b L : Nat} {xs : Nat → Int32} (hL : L ≤ 288) (C0 : lw_At p s m meth c b L xs) {ep hd ha mo mw mp : Nat} {dA d1 d2 : ClassId} (hE : EPO (dC, dI) ep (LA s) s) (hK : va_K (dC, dI) vwCl (LT dA d1 d2) s) {k i : Nat} (hk : k ≤ 48) (hi : i + 6 ≤ L) {Z : State → Prop}
    (nxt : ∀ (q : Nat → Nat) (sv : Nat → Int64) (nv : Nat → Int32) (w pt : Nat → Int64) (H : Heap) (locs : List Loc), LInv dC dI s hd ha mo mw mp dA d1 d2 q sv nv w pt H locs → ∀ ls : Array Slot, lv_has ls 4 [(0, .ref b), (1, .ref hd), (2, .ref mo), (3, .int (nI i))] → W p l e room_1 s m #[Value.ref b] below meth c H locs (8 + k + 1) (16 + 2 * k + 2) Z (F0 m 393 ls []))
    {q : Nat → Nat} {sv : Nat → Int64} {nv : Nat → Int32} {w pt : Nat → Int64} {H : Heap} {locs : List Loc} (hv : LInv dC dI s hd ha mo mw mp dA d1 d2 q sv nv w pt H locs) {ls : Array Slot} (hl : lv_has ls 4 [(0, .ref b), (1, .ref hd), (2, .ref mo), (3, .int (nI i))]) : W p l e room_1 s m #[Value.ref b] below meth c H locs (8 + k) (16 + 2 * k) Z (F0 m 330 ls []) := by
  obtain ⟨hx, hb, hr, hml, hown, hts0, hX, hbl, hlocks, hgv⟩ := C0
  have hts : ∀ w ∈ lw_all, w.before _ s = true := fun w h => hts0 w (lw_all_tbl h)
  have hA : ∀ q : Nat, s.heap.size ≤ q → LA s q := fun _ h => h
  have hbA : ¬ LA s b := Nat.not_le.mpr hbl
  obtain ⟨hR, hP, hD, hI, hN, hS⟩ := hv
  obtain ⟨g1, g2, g3, g4⟩ := hR 0 (by decide)
  obtain ⟨m1, m2, m3, m4⟩ := hR 1 (by decide)
  refine lv_aload_n hx hb dL_law_330 rfl (lv_at hl 1 rfl) ?_
  have hPc := hP.sub (ws' := DW hd ha dA q) [0, 1] rfl
  have hDc := hD.sub (ws' := DW hd ha dA q) [0, 1] (by decide) rfl
  have hKc := hK.sub (tys' := DT dA) [0] rfl
  have hPc := hPc.app (va_P2 (hI 0 (by decide)).1 (hI 1 (by decide)).1)
  refine vp_callSi (W.runV (As := []) (rest := []) ⟨hx, hb, hml, hown, hts⟩ (metX0_before l dC dI hd ha dA q sv nv  g3 g4 m3 m4) (cwV 0 hts (lw_V q214 q215 q216 q5 q217) rfl rfl rfl (by decide +kernel) ⟨Nat.le_of_ble_eq_true rfl, Nat.le_of_ble_eq_true rfl⟩) ⟨bl_rd, va_recv hKc hPc (ci := 0) (q0 := 0) rfl rfl, fun U hU hW => ⟨rfl, va_K.moved hW.alike hKc, by rw [hU]; exact hPc⟩⟩ rfl rfl hl.1 rfl (lv_room (Nat.le_of_ble_eq_true rfl)) dL_law_331 ⟨Nat.le_trans (show _ ≤ 200 from by omega) (Nat.le_of_ble_eq_true rfl), Nat.le_trans (show _ ≤ 400 from by omega) (Nat.le_of_ble_eq_true rfl)⟩) (fun r331 hr331 => ?_)
  have hr331 : (r331.toInt = 1 ∧ ((sv 0).toInt < (sv 1).toInt ∨ ((sv 0).toInt = (sv 1).toInt ∧ (nv 0).toInt < (nv 1).toInt))) ∨ (r331.toInt = 0 ∧ ¬ ((sv 0).toInt < (sv 1).toInt ∨ ((sv 0).toInt = (sv 1).toInt ∧ (nv 0).toInt < (nv 1).toInt))) := hr331
  refine lv_aload_n hx hb dL_law_334 rfl (lv_at hl 2 rfl) ?_
  have hPc := hP.sub (ws' := MW mo mw mp d1 d2 w pt) [2, 3, 4] rfl
  have hDc := hD.sub (ws' := MW mo mw mp d1 d2 w pt) [2, 3, 4] (by decide) rfl
  have hKc := hK.sub (tys' := MT d1 d2) [1, 2] rfl
  refine vp_callSi (W.runV (As := []) (rest := [.int r331]) ⟨hx, hb, hml, hown, hts⟩ (metX5_before l dC dI mo mw mp d1 d2 w pt  ) (cwV 0 hts (lw_V q325 q326 q327 q14 q328) rfl rfl rfl (by decide +kernel) ⟨Nat.le_of_ble_eq_true rfl, Nat.le_of_ble_eq_true rfl⟩) ⟨bl_rd, va_recv hKc hPc (ci := 2) (q0 := 0) rfl rfl, fun U hU hW => ⟨rfl, va_K.moved hW.alike hKc, by rw [hU]; exact hPc⟩⟩ rfl rfl hl.1 rfl (lv_room (Nat.le_of_ble_eq_true rfl)) dL_law_335 ⟨Nat.le_trans (show _ ≤ 200 from by omega) (Nat.le_of_ble_eq_true rfl), Nat.le_trans (show _ ≤ 400 from by omega) (Nat.le_of_ble_eq_true rfl)⟩) (fun r335 hr335 => ?_)
  have hr335 : (r335.toInt = 1 ∧ ((w 0).toInt < (w 1).toInt ∨ ((w 0).toInt = (w 1).toInt ∧ (pt 0).toInt < (pt 1).toInt))) ∨ (r335.toInt = 0 ∧ ¬ ((w 0).toInt < (w 1).toInt ∨ ((w 0).toInt = (w 1).toInt ∧ (pt 0).toInt < (pt 1).toInt))) := hr335
  refine lv_icmp_eq (tgt := 393) hx hb dL_law_338 (by decide) (fun c338 => ?_) (fun c338 => ?_)
  · refine W.widen (k := 8 + k + 1) (n := 16 + 2 * k + 2) (by omega) (by omega) ?_
    exact nxt q sv nv w pt _ _ ⟨hR, hP, hD, hI, hN, hS⟩ ls hl
  · exact absurd (Int32.toInt_inj.mp (show r331.toInt = r335.toInt from by omega)) c338
set_option maxHeartbeats 4000000 in
set_option maxRecDepth 100000 in
/-- after -/
theorem law_case8 {p : Program} {l : Launch} {e : Env} {s : State} {m : MethodId} {below : List Frame} {meth : Method} {c : Code} {dC : Nat → ClassId} {dI : Nat → Nat → Nat} {b L : Nat} {xs : Nat → Int32} (hL : L ≤ 288) (C0 : lw_At p s m meth c b L xs) {ep hd ha mo mw mp : Nat} {dA d1 d2 : ClassId} (hE : EPO (dC, dI) ep (LA s) s) (hK : va_K (dC, dI) vwCl (LT dA d1 d2) s) {k i : Nat} (hk : k ≤ 48) (hi : i + 6 ≤ L) {Z : State → Prop}
    (nxt : ∀ (q : Nat → Nat) (sv : Nat → Int64) (nv : Nat → Int32) (w pt : Nat → Int64) (H : Heap) (locs : List Loc), LInv dC dI s hd ha mo mw mp dA d1 d2 q sv nv w pt H locs → ∀ ls : Array Slot, lv_has ls 4 [(0, .ref b), (1, .ref hd), (2, .ref mo), (3, .int (nI i))] → W p l e room_1 s m #[Value.ref b] below meth c H locs (8 + k + 1) (16 + 2 * k + 2) Z (F0 m 393 ls []))
    {q : Nat → Nat} {sv : Nat → Int64} {nv : Nat → Int32} {w pt : Nat → Int64} {H : Heap} {locs : List Loc} (hv : LInv dC dI s hd ha mo mw mp dA d1 d2 q sv nv w pt H locs) {ls : Array Slot} (hl : lv_has ls 4 [(0, .ref b), (1, .ref hd), (2, .ref mo), (3, .int (nI i))]) : W p l e room_1 s m #[Value.ref b] below meth c H locs (8 + k) (16 + 2 * k) Z (F0 m 343 ls []) := by
  obtain ⟨hx, hb, hr, hml, hown, hts0, hX, hbl, hlocks, hgv⟩ := C0
  have hts : ∀ w ∈ lw_all, w.before _ s = true := fun w h => hts0 w (lw_all_tbl h)
  have hA : ∀ q : Nat, s.heap.size ≤ q → LA s q := fun _ h => h
  have hbA : ¬ LA s b := Nat.not_le.mpr hbl
  obtain ⟨hR, hP, hD, hI, hN, hS⟩ := hv
  obtain ⟨g1, g2, g3, g4⟩ := hR 0 (by decide)
  obtain ⟨m1, m2, m3, m4⟩ := hR 1 (by decide)
  refine lv_aload_n hx hb dL_law_343 rfl (lv_at hl 1 rfl) ?_
  have hPc := hP.sub (ws' := DW hd ha dA q) [0, 1] rfl
  have hDc := hD.sub (ws' := DW hd ha dA q) [0, 1] (by decide) rfl
  have hKc := hK.sub (tys' := DT dA) [0] rfl
  have hPc := hPc.app (va_P2 (hI 0 (by decide)).1 (hI 1 (by decide)).1)
  refine vp_callSi (W.runV (As := []) (rest := []) ⟨hx, hb, hml, hown, hts⟩ (metX0_after l dC dI hd ha dA q sv nv  g3 g4 m3 m4) (cwV 0 hts (lw_V q229 q230 q231 q5 q232) rfl rfl rfl (by decide +kernel) ⟨Nat.le_of_ble_eq_true rfl, Nat.le_of_ble_eq_true rfl⟩) ⟨bl_rd, va_recv hKc hPc (ci := 0) (q0 := 0) rfl rfl, fun U hU hW => ⟨rfl, va_K.moved hW.alike hKc, by rw [hU]; exact hPc⟩⟩ rfl rfl hl.1 rfl (lv_room (Nat.le_of_ble_eq_true rfl)) dL_law_344 ⟨Nat.le_trans (show _ ≤ 200 from by omega) (Nat.le_of_ble_eq_true rfl), Nat.le_trans (show _ ≤ 400 from by omega) (Nat.le_of_ble_eq_true rfl)⟩) (fun r344 hr344 => ?_)
  have hr344 : (r344.toInt = 1 ∧ ((sv 1).toInt < (sv 0).toInt ∨ ((sv 0).toInt = (sv 1).toInt ∧ (nv 1).toInt < (nv 0).toInt))) ∨ (r344.toInt = 0 ∧ ¬ ((sv 1).toInt < (sv 0).toInt ∨ ((sv 0).toInt = (sv 1).toInt ∧ (nv 1).toInt < (nv 0).toInt))) := hr344
  refine lv_aload_n hx hb dL_law_347 rfl (lv_at hl 2 rfl) ?_
  have hPc := hP.sub (ws' := MW mo mw mp d1 d2 w pt) [2, 3, 4] rfl
  have hDc := hD.sub (ws' := MW mo mw mp d1 d2 w pt) [2, 3, 4] (by decide) rfl
  have hKc := hK.sub (tys' := MT d1 d2) [1, 2] rfl
  refine vp_callSi (W.runV (As := []) (rest := [.int r344]) ⟨hx, hb, hml, hown, hts⟩ (metX5_after l dC dI mo mw mp d1 d2 w pt  ) (cwV 0 hts (lw_V q333 q334 q335 q14 q336) rfl rfl rfl (by decide +kernel) ⟨Nat.le_of_ble_eq_true rfl, Nat.le_of_ble_eq_true rfl⟩) ⟨bl_rd, va_recv hKc hPc (ci := 2) (q0 := 0) rfl rfl, fun U hU hW => ⟨rfl, va_K.moved hW.alike hKc, by rw [hU]; exact hPc⟩⟩ rfl rfl hl.1 rfl (lv_room (Nat.le_of_ble_eq_true rfl)) dL_law_348 ⟨Nat.le_trans (show _ ≤ 200 from by omega) (Nat.le_of_ble_eq_true rfl), Nat.le_trans (show _ ≤ 400 from by omega) (Nat.le_of_ble_eq_true rfl)⟩) (fun r348 hr348 => ?_)
  have hr348 : (r348.toInt = 1 ∧ ((w 1).toInt < (w 0).toInt ∨ ((w 0).toInt = (w 1).toInt ∧ (pt 1).toInt < (pt 0).toInt))) ∨ (r348.toInt = 0 ∧ ¬ ((w 1).toInt < (w 0).toInt ∨ ((w 0).toInt = (w 1).toInt ∧ (pt 1).toInt < (pt 0).toInt))) := hr348
  refine lv_icmp_eq (tgt := 393) hx hb dL_law_351 (by decide) (fun c351 => ?_) (fun c351 => ?_)
  · refine W.widen (k := 8 + k + 1) (n := 16 + 2 * k + 2) (by omega) (by omega) ?_
    exact nxt q sv nv w pt _ _ ⟨hR, hP, hD, hI, hN, hS⟩ ls hl
  · exact absurd (Int32.toInt_inj.mp (show r344.toInt = r348.toInt from by omega)) c351
set_option maxHeartbeats 4000000 in
set_option maxRecDepth 100000 in
/-- order -/
theorem law_case9 {p : Program} {l : Launch} {e : Env} {s : State} {m : MethodId} {below : List Frame} {meth : Method} {c : Code} {dC : Nat → ClassId} {dI : Nat → Nat → Nat} {b L : Nat} {xs : Nat → Int32} (hL : L ≤ 288) (C0 : lw_At p s m meth c b L xs) {ep hd ha mo mw mp : Nat} {dA d1 d2 : ClassId} (hE : EPO (dC, dI) ep (LA s) s) (hK : va_K (dC, dI) vwCl (LT dA d1 d2) s) {k i : Nat} (hk : k ≤ 48) (hi : i + 6 ≤ L) {Z : State → Prop}
    (nxt : ∀ (q : Nat → Nat) (sv : Nat → Int64) (nv : Nat → Int32) (w pt : Nat → Int64) (H : Heap) (locs : List Loc), LInv dC dI s hd ha mo mw mp dA d1 d2 q sv nv w pt H locs → ∀ ls : Array Slot, lv_has ls 4 [(0, .ref b), (1, .ref hd), (2, .ref mo), (3, .int (nI i))] → W p l e room_1 s m #[Value.ref b] below meth c H locs (8 + k + 1) (16 + 2 * k + 2) Z (F0 m 393 ls []))
    {q : Nat → Nat} {sv : Nat → Int64} {nv : Nat → Int32} {w pt : Nat → Int64} {H : Heap} {locs : List Loc} (hv : LInv dC dI s hd ha mo mw mp dA d1 d2 q sv nv w pt H locs) {ls : Array Slot} (hl : lv_has ls 4 [(0, .ref b), (1, .ref hd), (2, .ref mo), (3, .int (nI i))]) : W p l e room_1 s m #[Value.ref b] below meth c H locs (8 + k) (16 + 2 * k) Z (F0 m 356 ls []) := by
  obtain ⟨hx, hb, hr, hml, hown, hts0, hX, hbl, hlocks, hgv⟩ := C0
  have hts : ∀ w ∈ lw_all, w.before _ s = true := fun w h => hts0 w (lw_all_tbl h)
  have hA : ∀ q : Nat, s.heap.size ≤ q → LA s q := fun _ h => h
  have hbA : ¬ LA s b := Nat.not_le.mpr hbl
  obtain ⟨hR, hP, hD, hI, hN, hS⟩ := hv
  obtain ⟨g1, g2, g3, g4⟩ := hR 0 (by decide)
  obtain ⟨m1, m2, m3, m4⟩ := hR 1 (by decide)
  refine lv_aload_n hx hb dL_law_356 rfl (lv_at hl 1 rfl) ?_
  have hPc := hP.sub (ws' := DW hd ha dA q) [0, 1] rfl
  have hDc := hD.sub (ws' := DW hd ha dA q) [0, 1] (by decide) rfl
  have hKc := hK.sub (tys' := DT dA) [0] rfl
  have hPc := hPc.app (va_P2 (hI 0 (by decide)).1 (hI 1 (by decide)).1)
  refine vp_callSi (W.runV (As := []) (rest := []) ⟨hx, hb, hml, hown, hts⟩ (metX0_order l dC dI hd ha dA q sv nv  g3 g4 m3 m4) (cwV 0 hts (lw_V q237 q238 q239 q5 q240) rfl rfl rfl (by decide +kernel) ⟨Nat.le_of_ble_eq_true rfl, Nat.le_of_ble_eq_true rfl⟩) ⟨bl_rd, va_recv hKc hPc (ci := 0) (q0 := 0) rfl rfl, fun U hU hW => ⟨rfl, va_K.moved hW.alike hKc, by rw [hU]; exact hPc⟩⟩ rfl rfl hl.1 rfl (lv_room (Nat.le_of_ble_eq_true rfl)) dL_law_357 ⟨Nat.le_trans (show _ ≤ 200 from by omega) (Nat.le_of_ble_eq_true rfl), Nat.le_trans (show _ ≤ 400 from by omega) (Nat.le_of_ble_eq_true rfl)⟩) (fun r357 hr357 => ?_)
  have hr357 : (r357.toInt = -1 ∧ ((sv 0).toInt < (sv 1).toInt ∨ ((sv 0).toInt = (sv 1).toInt ∧ (nv 0).toInt < (nv 1).toInt))) ∨ (r357.toInt = 1 ∧ ((sv 1).toInt < (sv 0).toInt ∨ ((sv 0).toInt = (sv 1).toInt ∧ (nv 1).toInt < (nv 0).toInt))) ∨ (r357.toInt = 0 ∧ ((sv 0).toInt = (sv 1).toInt ∧ (nv 0).toInt = (nv 1).toInt)) := hr357
  refine lv_aload_n hx hb dL_law_360 rfl (lv_at hl 2 rfl) ?_
  have hPc := hP.sub (ws' := MW mo mw mp d1 d2 w pt) [2, 3, 4] rfl
  have hDc := hD.sub (ws' := MW mo mw mp d1 d2 w pt) [2, 3, 4] (by decide) rfl
  have hKc := hK.sub (tys' := MT d1 d2) [1, 2] rfl
  refine vp_callSi (W.runV (As := []) (rest := [.int r357]) ⟨hx, hb, hml, hown, hts⟩ (metX5_order l dC dI mo mw mp d1 d2 w pt  ) (cwV 0 hts (lw_V q337 q330 q331 q14 q332) rfl rfl rfl (by decide +kernel) ⟨Nat.le_of_ble_eq_true rfl, Nat.le_of_ble_eq_true rfl⟩) ⟨bl_rd, va_recv hKc hPc (ci := 2) (q0 := 0) rfl rfl, fun U hU hW => ⟨rfl, va_K.moved hW.alike hKc, by rw [hU]; exact hPc⟩⟩ rfl rfl hl.1 rfl (lv_room (Nat.le_of_ble_eq_true rfl)) dL_law_361 ⟨Nat.le_trans (show _ ≤ 200 from by omega) (Nat.le_of_ble_eq_true rfl), Nat.le_trans (show _ ≤ 400 from by omega) (Nat.le_of_ble_eq_true rfl)⟩) (fun r361 hr361 => ?_)
  have hr361 : (r361.toInt = -1 ∧ ((w 0).toInt < (w 1).toInt ∨ ((w 0).toInt = (w 1).toInt ∧ (pt 0).toInt < (pt 1).toInt))) ∨ (r361.toInt = 1 ∧ ((w 1).toInt < (w 0).toInt ∨ ((w 0).toInt = (w 1).toInt ∧ (pt 1).toInt < (pt 0).toInt))) ∨ (r361.toInt = 0 ∧ ((w 0).toInt = (w 1).toInt ∧ (pt 0).toInt = (pt 1).toInt)) := hr361
  refine lv_icmp_eq (tgt := 393) hx hb dL_law_364 (by decide) (fun c364 => ?_) (fun c364 => ?_)
  · refine W.widen (k := 8 + k + 1) (n := 16 + 2 * k + 2) (by omega) (by omega) ?_
    exact nxt q sv nv w pt _ _ ⟨hR, hP, hD, hI, hN, hS⟩ ls hl
  · exact absurd (Int32.toInt_inj.mp (show r357.toInt = r361.toInt from by omega)) c364
set_option maxHeartbeats 4000000 in
set_option maxRecDepth 100000 in
/-- milli -/
theorem law_case10 {p : Program} {l : Launch} {e : Env} {s : State} {m : MethodId} {below : List Frame} {meth : Method} {c : Code} {dC : Nat → ClassId} {dI : Nat → Nat → Nat} {b L : Nat} {xs : Nat → Int32} (hL : L ≤ 288) (C0 : lw_At p s m meth c b L xs) {ep hd ha mo mw mp : Nat} {dA d1 d2 : ClassId} (hE : EPO (dC, dI) ep (LA s) s) (hK : va_K (dC, dI) vwCl (LT dA d1 d2) s) {k i : Nat} (hk : k ≤ 48) (hi : i + 6 ≤ L) {Z : State → Prop}
    (nxt : ∀ (q : Nat → Nat) (sv : Nat → Int64) (nv : Nat → Int32) (w pt : Nat → Int64) (H : Heap) (locs : List Loc), LInv dC dI s hd ha mo mw mp dA d1 d2 q sv nv w pt H locs → ∀ ls : Array Slot, lv_has ls 4 [(0, .ref b), (1, .ref hd), (2, .ref mo), (3, .int (nI i))] → W p l e room_1 s m #[Value.ref b] below meth c H locs (8 + k + 1) (16 + 2 * k + 2) Z (F0 m 393 ls []))
    {q : Nat → Nat} {sv : Nat → Int64} {nv : Nat → Int32} {w pt : Nat → Int64} {H : Heap} {locs : List Loc} (hv : LInv dC dI s hd ha mo mw mp dA d1 d2 q sv nv w pt H locs) {ls : Array Slot} (hl : lv_has ls 4 [(0, .ref b), (1, .ref hd), (2, .ref mo), (3, .int (nI i))]) : W p l e room_1 s m #[Value.ref b] below meth c H locs (8 + k) (16 + 2 * k) Z (F0 m 369 ls []) := by
  obtain ⟨hx, hb, hr, hml, hown, hts0, hX, hbl, hlocks, hgv⟩ := C0
  have hts : ∀ w ∈ lw_all, w.before _ s = true := fun w h => hts0 w (lw_all_tbl h)
  have hA : ∀ q : Nat, s.heap.size ≤ q → LA s q := fun _ h => h
  have hbA : ¬ LA s b := Nat.not_le.mpr hbl
  obtain ⟨hR, hP, hD, hI, hN, hS⟩ := hv
  obtain ⟨j, hj, ej⟩ := n_ix (xs (i + 1))
  obtain ⟨g1, g2, g3, g4⟩ := hR j hj
  refine lv_aload_n hx hb dL_law_369 rfl (lv_at hl 1 rfl) ?_
  refine lv_aload_n hx hb dL_law_370 rfl (lv_at hl 0 rfl) ?_
  refine lv_iload_n hx hb dL_law_371 rfl (lv_at hl 3 rfl) ?_
  refine lv_iconst (v := 1) hx hb dL_law_372 (by decide) ?_
  refine lv_iadd hx hb dL_law_373 ?_
  refine lv_topi (fun v373 e373 => ?_)
  obtain rfl : v373 = nI (i + 1) := n_add_i i 1 e373 rfl
  refine va_sld hx hb hX hbl hbA hS (vp_in_nI (show i + 1 < L by omega) (by omega)) dL_law_374 ?_
  refine lv_topi (fun v374 e374 => ?_)
  rw [nI_clamp (show i + 1 < 2 ^ 31 by omega)] at e374
  subst e374
  have hPc := hP.sub (ws' := DW hd ha dA q) [0, 1] rfl
  have hDc := hD.sub (ws' := DW hd ha dA q) [0, 1] (by decide) rfl
  have hKc := hK.sub (tys' := DT dA) [0] rfl
  have hPc := hPc.app (va_P1 (hI j hj).1)
  refine vp_callSl (W.runV (As := [.int (xs (i + 1))]) (rest := []) ⟨hx, hb, hml, hown, hts⟩ (metX0_milli l dC dI hd ha dA q sv nv ((xs (i + 1))) j hj ej g3 g4) (cwV 1 hts (lw_V q242 q243 q244 q5 q245) rfl rfl rfl (by decide +kernel) ⟨Nat.le_of_ble_eq_true rfl, Nat.le_of_ble_eq_true rfl⟩) ⟨bl_rd, va_recv hKc hPc (ci := 0) (q0 := 0) rfl rfl, fun U hU hW => ⟨rfl, va_K.moved hW.alike hKc, by rw [hU]; exact hPc⟩⟩ rfl rfl hl.1 rfl (lv_room (Nat.le_of_ble_eq_true rfl)) dL_law_375 ⟨Nat.le_trans (show _ ≤ 200 from by omega) (Nat.le_of_ble_eq_true rfl), Nat.le_trans (show _ ≤ 400 from by omega) (Nat.le_of_ble_eq_true rfl)⟩) (fun r375 hr375 => ?_)
  have hr375 : ((-9000000000000000 ≤ (sv j).toInt ∧ (sv j).toInt ≤ 9000000000000000) ∧ r375.toInt = (sv j).toInt * 1000 + (nv j).toInt / 1000000) ∨ (¬ (-9000000000000000 ≤ (sv j).toInt ∧ (sv j).toInt ≤ 9000000000000000) ∧ r375.toInt = 0) := hr375
  refine lv_aload_n hx hb dL_law_378 rfl (lv_at hl 2 rfl) ?_
  refine lv_aload_n hx hb dL_law_379 rfl (lv_at hl 0 rfl) ?_
  refine lv_iload_n hx hb dL_law_380 rfl (lv_at hl 3 rfl) ?_
  refine lv_iconst (v := 1) hx hb dL_law_381 (by decide) ?_
  refine lv_iadd hx hb dL_law_382 ?_
  refine lv_topi (fun v382 e382 => ?_)
  obtain rfl : v382 = nI (i + 1) := n_add_i i 1 e382 rfl
  refine va_sld hx hb hX hbl hbA hS (vp_in_nI (show i + 1 < L by omega) (by omega)) dL_law_383 ?_
  refine lv_topi (fun v383 e383 => ?_)
  rw [nI_clamp (show i + 1 < 2 ^ 31 by omega)] at e383
  subst e383
  have hPc := hP.sub (ws' := MW mo mw mp d1 d2 w pt) [2, 3, 4] rfl
  have hDc := hD.sub (ws' := MW mo mw mp d1 d2 w pt) [2, 3, 4] (by decide) rfl
  have hKc := hK.sub (tys' := MT d1 d2) [1, 2] rfl
  refine vp_callSl (W.runV (As := [.int (xs (i + 1))]) (rest := [.long r375]) ⟨hx, hb, hml, hown, hts⟩ (metX5_milli l dC dI mo mw mp d1 d2 w pt ((xs (i + 1))) j hj ej (g2 ▸ g3) (g2 ▸ g4)) (cwV 1 hts (lw_V q338 q339 q340 q14 q341) rfl rfl rfl (by decide +kernel) ⟨Nat.le_of_ble_eq_true rfl, Nat.le_of_ble_eq_true rfl⟩) ⟨bl_rd, va_recv hKc hPc (ci := 2) (q0 := 0) rfl rfl, fun U hU hW => ⟨rfl, va_K.moved hW.alike hKc, by rw [hU]; exact hPc⟩⟩ rfl rfl hl.1 rfl (lv_room (Nat.le_of_ble_eq_true rfl)) dL_law_384 ⟨Nat.le_trans (show _ ≤ 200 from by omega) (Nat.le_of_ble_eq_true rfl), Nat.le_trans (show _ ≤ 400 from by omega) (Nat.le_of_ble_eq_true rfl)⟩) (fun r384 hr384 => ?_)
  have hr384 : ((-9000000000000000 ≤ (w j).toInt ∧ (w j).toInt ≤ 9000000000000000) ∧ r384.toInt = (w j).toInt * 1000 + (pt j).toInt / 1000000) ∨ (¬ (-9000000000000000 ≤ (w j).toInt ∧ (w j).toInt ≤ 9000000000000000) ∧ r384.toInt = 0) := hr384
  refine W.lcmp hx hb dL_law_387 ?_
  refine lv_if_eq (tgt := 393) hx hb dL_law_388 (by decide) (fun c388 => ?_) (fun c388 => ?_)
  · have k388 := n_eq.mp c388
    refine W.widen (k := 8 + k + 1) (n := 16 + 2 * k + 2) (by omega) (by omega) ?_
    exact nxt q sv nv w pt _ _ ⟨hR, hP, hD, hI, hN, hS⟩ ls hl
  · have k388 := mt n_eq.mpr c388
    exact absurd (show r375.toInt = r384.toInt from by omega) k388
end
section
theorem i6 : (6 : Int32).toInt = 6 := by decide +kernel
set_option maxHeartbeats 4000000 in
set_option maxRecDepth 100000 in
/-- THE LAW'S LOOP, at its head, with k steps done -/
theorem law_loop {p : Program} {l : Launch} {e : Env} {s : State} {m : MethodId} {below : List Frame} {meth : Method} {c : Code} {dC : Nat → ClassId} {dI : Nat → Nat → Nat} {b L : Nat} {xs : Nat → Int32} (hL : L ≤ 288) (C0 : lw_At p s m meth c b L xs) {ep hd ha mo mw mp : Nat} {dA d1 d2 : ClassId} (hE : EPO (dC, dI) ep (LA s) s) (hK : va_K (dC, dI) vwCl (LT dA d1 d2) s) :
    ∀ (n k : Nat), 6 * k ≤ L → 49 ≤ k + n → ∀ (q : Nat → Nat) (sv : Nat → Int64) (nv : Nat → Int32) (w pt : Nat → Int64) (H : Heap) (locs : List Loc), LInv dC dI s hd ha mo mw mp dA d1 d2 q sv nv w pt H locs → ∀ ls : Array Slot, lv_has ls 4 [(0, .ref b), (1, .ref hd), (2, .ref mo), (3, .int (nI (6 * k)))] → W p l e room_1 s m #[Value.ref b] below meth c H locs (8 + k) (16 + 2 * k) (lw_Z below #[Value.ref b] s) (F0 m 18 ls []) := by
  intro n
  induction n with
  | zero =>
    intro k h1 h2
    exact absurd h2 (by omega)
  | succ n ih =>
    intro k hkL hkn q sv nv w pt H locs hv ls hl
    have C1 := C0
    obtain ⟨hx, hb, hr, hml, hown, hts0, hX, hbl, hlocks, hgv⟩ := C0
    have hbA : ¬ LA s b := Nat.not_le.mpr hbl
    have hS := hv.2.2.2.2.2
    have hk : k ≤ 48 := by omega
    have toL : (Int32.ofNat L).toInt = (L : Int) := nI_toInt (show L < 2 ^ 31 by omega)
    have toK : (nI (6 * k)).toInt = ((6 * k : Nat) : Int) := nI_toInt (show 6 * k < 2 ^ 31 by omega)
    refine lv_iload_n hx hb dL_law_18 rfl (lv_at hl 3 rfl) ?_
    refine lv_aload_n hx hb dL_law_19 rfl (lv_at hl 0 rfl) ?_
    refine va_slen hx hb hX hbl hbA hS dL_law_20 ?_
    refine lv_bipush (v := 6) hx hb dL_law_21 (by decide) ?_
    refine lv_isub hx hb dL_law_23 ?_
    refine lv_topi (fun v23 e23 => ?_)
    have g23 := n_sub32 e23 (by rw [toL, i6]; omega) (by rw [toL, i6]; omega)
    rw [toL, i6] at g23
    refine lv_icmp_gt (tgt := 399) hx hb dL_law_24 (by decide) (fun c24 => ?_) (fun c24 => ?_)
    · refine lv_iconst (v := 1) hx hb dL_law_399 (by decide) ?_
      refine va_forget (fun q hq => hS.2.2 q hq) ?_
      refine W.widen (k := 1200096) (n := 5501386) (Nat.le_trans (show _ ≤ 200 from by omega) (Nat.le_of_ble_eq_true rfl)) (Nat.le_trans (show _ ≤ 400 from by omega) (Nat.le_of_ble_eq_true rfl)) ?_
      exact lw_ret hx hb hr hlocks dL_law_400
    · have k24 := mt n_lt32.mpr c24
      rw [g23, toK] at k24
      have hi : 6 * k + 6 ≤ L := by omega
      refine lv_aload_n hx hb dL_law_27 rfl (lv_at hl 0 rfl) ?_
      refine lv_iload_n hx hb dL_law_28 rfl (lv_at hl 3 rfl) ?_
      refine va_sld hx hb hX hbl hbA hS (vp_in_nI (show 6 * k < L by omega) (by omega)) dL_law_29 ?_
      refine lv_topi (fun v29 e29 => ?_)
      refine lv_bipush (v := 15) hx hb dL_law_30 (by decide) ?_
      refine lv_iand hx hb dL_law_32 ?_
      refine lv_topi (fun v32 e32 => ?_)
      have nxt : ∀ (q : Nat → Nat) (sv : Nat → Int64) (nv : Nat → Int32) (w pt : Nat → Int64) (H : Heap) (locs : List Loc), LInv dC dI s hd ha mo mw mp dA d1 d2 q sv nv w pt H locs → ∀ ls : Array Slot, lv_has ls 4 [(0, .ref b), (1, .ref hd), (2, .ref mo), (3, .int (nI (6 * k)))] → W p l e room_1 s m #[Value.ref b] below meth c H locs (8 + k + 1) (16 + 2 * k + 2) (lw_Z below #[Value.ref b] s) (F0 m 393 ls []) := by
        intro q sv nv w pt H locs hv ls hl
        refine lv_iinc (v := nI (6 * (k + 1))) (lv' := [(3, .int (nI (6 * (k + 1)))), (0, .ref b), (1, .ref hd), (2, .ref mo)]) hx hb dL_law_393 hl (k := 3) rfl (nI_add (6 * k) 6) (by decide) rfl (fun ls hl => ?_)
        refine lv_goto (tgt := 18) hx hb dL_law_396 (by decide) ?_
        exact ih (k + 1) (by omega) (by omega) q sv nv w pt H locs hv ls (lv_sub hl [1, 2, 3, 0] rfl)
      obtain ⟨t, ht, et⟩ := pk_andE (xs (6 * k)) 4 (m := 15) rfl
      have e32 : v32 = nI t := by rw [e32, e29, nI_clamp (show 6 * k < 2 ^ 31 by omega)]; exact et
      subst e32
      rcases (show t = 0 ∨ t = 1 ∨ t = 2 ∨ t = 3 ∨ t = 4 ∨ t = 5 ∨ t = 6 ∨ t = 7 ∨ t = 8 ∨ t = 9 ∨ t = 10 ∨ 11 ≤ t by omega) with rfl | rfl | rfl | rfl | rfl | rfl | rfl | rfl | rfl | rfl | rfl | h11
      · refine lv_tableIn (off := 59) (tgt := 92) hx hb dL_law_33 (by decide) (by decide) rfl (by decide) ?_
        exact law_case0 hL C1 hE hK hk hi nxt hv hl
      · refine lv_tableIn (off := 110) (tgt := 143) hx hb dL_law_33 (by decide) (by decide) rfl (by decide) ?_
        exact law_case1 hL C1 hE hK hk hi nxt hv hl
      · refine lv_tableIn (off := 143) (tgt := 176) hx hb dL_law_33 (by decide) (by decide) rfl (by decide) ?_
        exact law_case2 hL C1 hE hK hk hi nxt hv hl
      · refine lv_tableIn (off := 176) (tgt := 209) hx hb dL_law_33 (by decide) (by decide) rfl (by decide) ?_
        exact law_case3 hL C1 hE hK hk hi nxt hv hl
      · refine lv_tableIn (off := 209) (tgt := 242) hx hb dL_law_33 (by decide) (by decide) rfl (by decide) ?_
        exact law_case4 hL C1 hE hK hk hi nxt hv hl
      · refine lv_tableIn (off := 250) (tgt := 283) hx hb dL_law_33 (by decide) (by decide) rfl (by decide) ?_
        exact law_case5 hL C1 hE hK hk hi nxt hv hl
      · refine lv_tableIn (off := 274) (tgt := 307) hx hb dL_law_33 (by decide) (by decide) rfl (by decide) ?_
        exact law_case6 hL C1 hE hK hk hi nxt hv hl
      · refine lv_tableIn (off := 297) (tgt := 330) hx hb dL_law_33 (by decide) (by decide) rfl (by decide) ?_
        exact law_case7 hL C1 hE hK hk hi nxt hv hl
      · refine lv_tableIn (off := 310) (tgt := 343) hx hb dL_law_33 (by decide) (by decide) rfl (by decide) ?_
        exact law_case8 hL C1 hE hK hk hi nxt hv hl
      · refine lv_tableIn (off := 323) (tgt := 356) hx hb dL_law_33 (by decide) (by decide) rfl (by decide) ?_
        exact law_case9 hL C1 hE hK hk hi nxt hv hl
      · refine lv_tableIn (off := 336) (tgt := 369) hx hb dL_law_33 (by decide) (by decide) rfl (by decide) ?_
        exact law_case10 hL C1 hE hK hk hi nxt hv hl
      · refine lv_tableOut (tgt := 393) hx hb dL_law_33 (Or.inr (by rw [nI_toInt (show t < 2 ^ 31 by omega)]; omega)) (by decide) ?_
        refine W.widen (k := 8 + k + 1) (n := 16 + 2 * k + 2) (by omega) (by omega) ?_
        exact nxt q sv nv w pt _ _ hv ls hl
set_option maxHeartbeats 4000000 in
set_option maxRecDepth 100000 in
/-- THE LAW, from its entry -/
theorem whole_start {p : Program} {e : Env} {s : State} {m : MethodId} {below : List Frame} {meth : Method} {c : Code} (l : Launch) (hflags : l.flags = flags0) {b L : Nat} {xs : Nat → Int32} (hL : L ≤ 288) (C0 : lw_At p s m meth c b L xs) : W p l e room_1 s m #[Value.ref b] below meth c s.heap [] 0 0 (lw_Z below #[Value.ref b] s) (entryFrame m ([Value.ref b] : List Value).toArray 4) := by
  have C1 := C0
  obtain ⟨hx, hb, hr, hml, hown, hts0, hX, hbl, hlocks, hgv⟩ := C0
  have hts : ∀ w ∈ lw_all, w.before _ s = true := fun w h => hts0 w (lw_all_tbl h)
  have hA : ∀ q : Nat, s.heap.size ≤ q → LA s q := fun _ h => h
  have hg := flat_of_before _ hgv
  obtain ⟨c0, iS0, hKn0⟩ := u_known (C := RX0) (T := TX0) (N := 1) (n := 1) hts in_X0 (hts _ q16)
  obtain ⟨c1, iS1, hKn1⟩ := u_known (C := RX2) (T := TX2) (N := 2) (n := 2) hts in_X2 (hts _ q130)
  obtain ⟨c2, iS2, hKn2⟩ := u_known (C := RX5) (T := TX5) (N := 2) (n := 2) hts in_X5 (hts _ q261)
  obtain ⟨dC, dI, hKc⟩ : ∃ (dC : Nat → ClassId) (dI : Nat → Nat → Nat), ∀ (k : Nat) (q : vw_C), vwCl[k]? = some q → u_Kn s q.1 q.2.1 q.2.2 (dC k) (dI k) := by
    refine ⟨fun k => if k = 0 then c0 else if k = 1 then c1 else c2, fun k => if k = 0 then iS0 else if k = 1 then iS1 else iS2, ?_⟩
    intro k q hq
    match k, hq with
    | 0, hq => cases hq; exact hKn0
    | 1, hq => cases hq; exact hKn1
    | 2, hq => cases hq; exact hKn2
    | k + 3, hq => simp [vwCl] at hq
  obtain ⟨ep, hE⟩ := epo_start (A := LA s) (hKc 1 _ rfl) (hts0 _ q110) (hts _ q7) (hg _ (by decide +kernel)) (hg _ (by decide +kernel)) (hg _ (by decide +kernel)) (hg _ (by decide +kernel)) (fun a h => Nat.not_le.mpr h)
  have hO : va_AO RX2 s := va_AO.of (hts0 _ q24)
  have hS : va_S (LA s) s.heap s.heap [] := va_S.rf
  have hK : va_K (dC, dI) vwCl [] s := ⟨hKc, fun k q h => by simp at h⟩
  have hl := lv_entry ([.ref b]) (n := 4) (Nat.le_of_ble_eq_true rfl)
  rw [lg_entry_eq]
  generalize (lg_sl ([.ref b]) ++ List.replicate (4 - (lg_sl ([.ref b])).length) Slot.unset).toArray = ls at hl ⊢
  have hl : lv_has ls 4 [(0, .ref b)] := hl
  refine va_new (ci := 0) (fs := [.null]) (C := RX0) (T := TX0) (N := 1) hx hb hts in_X0 tyX0 tyX0_ok hown (hts _ q15) (hts _ q16) (hts _ q5) hK va_P0 va_D0 hS hA rfl (fun j hj => by rcases (show j = 0 by omega) with rfl; rfl) (Nat.le_of_ble_eq_true rfl) (Nat.le_of_ble_eq_true rfl) dL_law_0 (fun hd H hP hD hS => ?_)
  have hP : va_P (dC, dI) vwCl [(hd, .inr (0, [.null]))] H := hP
  have hD : va_D (LA s) [(hd, .inr (0, [.null]))] := hD
  refine W.widen (k := 1) (n := 1) (Nat.le_of_ble_eq_true rfl) (Nat.le_of_ble_eq_true rfl) ?_
  refine lv_dup hx hb dL_law_3 rfl ?_
  have hF4 := va_free (wc := [(hd, .inr (0, [.null]))]) hD hS hA [0] rfl
  refine va_callv (va_runI (As := []) (rest := [.ref hd]) ⟨hx, hb, hml, hown, hts⟩ (metX0_init l dC dI hd ep H.size) (cwI 0 hts (lw_meth q19) rfl rfl rfl (hts _ q5) (hts _ q17) (hts _ q18) rfl (by decide +kernel) ⟨Nat.le_of_ble_eq_true rfl, Nat.le_of_ble_eq_true rfl⟩) ⟨bl_di, fun U hU hW => ⟨rfl, by rw [hU], by rw [hU]; exact hP, va_K.moved hW.alike hK, hD.weaken (fun _ _ _ _ => trivial), hE.call hS hF4 hU hW.alike, va_AO.moved hW.alike hO⟩⟩ rfl rfl hl.1 rfl (lv_room (Nat.le_of_ble_eq_true rfl)) dL_law_4 ⟨Nat.le_of_ble_eq_true rfl, Nat.le_of_ble_eq_true rfl⟩) hS (fun q _ h => hF4 q h) hF4 (fun u4 t4 H4 locs ht hvm hw4 hB4 hz4 hk4 hS => ?_)
  subst ht
  obtain ⟨ha, dA, q, sv, nv⟩ := u4
  obtain ⟨hP1, hD1, hK1, hI, hat⟩ := hB4
  have hI : INS (dC, dI) hd ha q sv nv t4.heap := hI
  have hK1 : va_K (dC, dI) vwCl (DT dA) s := va_K.moved hvm.symm hK1
  have hJ := va_join (wr := []) (w1 := DW hd ha dA q) hP hD [0] [] rfl rfl (by decide) (by decide) hk4 hF4 hP1 hD1
  have hP : va_P (dC, dI) vwCl (DW hd ha dA q) t4.heap := hJ.1
  have hD : va_D (LA s) (DW hd ha dA q) := hJ.2
  have hK := hK1
  have hw4 : ∀ i, i < 2 → (sv i).toInt = 0 ∧ (nv i).toInt = 0 := hw4
  refine W.widen (k := 4) (n := 7) (Nat.le_of_ble_eq_true rfl) (Nat.le_of_ble_eq_true rfl) ?_
  refine lv_astore_n (lv' := [(1, .ref hd), (0, .ref b)]) hx hb dL_law_7 rfl hl (by decide) rfl (fun ls hl => ?_)
  refine my_new (ci := 2) (fs := [.null, .null]) (C := RX5) (T := TX5) (N := 2) hx hb hts in_X5 tyX5 tyX5_ok hown (hts _ q260) (hts _ q261) (hts _ q14) hK hP hD hS hA rfl (fun j hj => by rcases (show j = 0 ∨ j = 1 by omega) with rfl | rfl <;> rfl) (Nat.le_of_ble_eq_true rfl) (Nat.le_of_ble_eq_true rfl) dL_law_8 (fun mo H hmo oq hP hD hS => ?_)
  have hP : va_P (dC, dI) vwCl [(hd, .inr (0, [.ref ha])), (ha, .inl (dA, 2, .inr (.inr (.inr (.inr (fun i => some (q i))))))), (mo, .inr (2, [.null, .null]))] H := hP
  have hD : va_D (LA s) [(hd, .inr (0, [.ref ha])), (ha, .inl (dA, 2, .inr (.inr (.inr (.inr (fun i => some (q i))))))), (mo, .inr (2, [.null, .null]))] := hD
  have hN : ∀ j, j < 2 → q j ≠ mo := fun j hj z => Nat.ne_of_lt (show q j < t4.heap.size from (hI j hj).1.lt) (z.trans hmo)
  have hI := hI.kept (H1 := H) (fun x h _ _ => oq x h)
  refine W.widen (k := 5) (n := 9) (Nat.le_of_ble_eq_true rfl) (Nat.le_of_ble_eq_true rfl) ?_
  refine lv_dup hx hb dL_law_11 rfl ?_
  have hPc := hP.sub (ws' := [(mo, .inr (2, [.null, .null]))]) [2] rfl
  have hDc := hD.sub (ws' := [(mo, .inr (2, [.null, .null]))]) [2] (by decide) rfl
  have hKc := hK.sub (tys' := []) [] rfl
  have hF12 := va_free (wc := [(mo, .inr (2, [.null, .null]))]) hD hS hA [2] rfl
  refine va_callv (va_runI (As := []) (rest := [.ref mo]) ⟨hx, hb, hml, hown, hts⟩ (metX5_init l dC dI mo H.size) (cwI 0 hts (lw_meth q264) rfl rfl rfl (hts _ q14) (hts _ q262) (hts _ q263) rfl (by decide +kernel) ⟨Nat.le_of_ble_eq_true rfl, Nat.le_of_ble_eq_true rfl⟩) ⟨bl_init, fun U hU hW => ⟨rfl, by rw [hU], by rw [hU]; exact hPc, va_K.moved hW.alike hKc, hDc.weaken (fun _ _ _ _ => trivial)⟩⟩ rfl rfl hl.1 rfl (lv_room (Nat.le_of_ble_eq_true rfl)) dL_law_12 ⟨Nat.le_of_ble_eq_true rfl, Nat.le_of_ble_eq_true rfl⟩) hS (fun q _ h => hF12 q h) hF12 (fun u12 t12 H12 locs ht hvm hw12 hB12 hz12 hk12 hS => ?_)
  subst ht
  obtain ⟨mw, mp, d1, d2⟩ := u12
  obtain ⟨hP1, hD1, hK1⟩ := hB12
  have hK1 : va_K (dC, dI) vwCl (MT d1 d2) s := va_K.moved hvm.symm hK1
  have hJ := va_join (wr := DW hd ha dA q) (w1 := MW mo mw mp d1 d2 (fun _ => 0) (fun _ => 0)) hP hD [2] [0, 1] rfl rfl (by decide) (by decide) hk12 hF12 hP1 hD1
  have hK : va_K (dC, dI) vwCl (LT dA d1 d2) s := hK.app hK1
  have hNn : AP q mo mw mp := ap_start hI hN hD1
  have hI := hI.kept2 (fun j hj => hk12 _ (hI j hj).1.lt (not_one (hN j hj) (hI j hj).1.lt))
  refine W.widen (k := 8 + 0) (n := 16 + 2 * 0) (Nat.le_of_ble_eq_true rfl) (Nat.le_of_ble_eq_true rfl) ?_
  refine lv_astore_n (lv' := [(2, .ref mo), (1, .ref hd), (0, .ref b)]) hx hb dL_law_15 rfl hl (by decide) rfl (fun ls hl => ?_)
  refine lv_iconst (v := 0) hx hb dL_law_16 (by decide) ?_
  refine lv_istore_n (lv' := [(3, .int 0), (2, .ref mo), (1, .ref hd), (0, .ref b)]) hx hb dL_law_17 rfl hl (by decide) rfl (fun ls hl => ?_)
  exact law_loop hL C1 hE hK 49 0 (Nat.zero_le _) (by omega) q sv nv (fun _ => 0) (fun _ => 0) _ _ ⟨fun j hj => ⟨by rw [(hw4 j hj).1]; rfl, by rw [(hw4 j hj).2]; rfl, by rw [(hw4 j hj).2]; decide, by rw [(hw4 j hj).2]; decide⟩, hJ.1, hJ.2, hI, hNn, hS⟩ ls (lv_sub hl [3, 2, 1, 0] rfl)
set_option maxHeartbeats 4000000 in
theorem lw_walk (l : Launch) (hflags : l.flags = flags0) (b : Addr) (xs : List Int32) : MetFree l x (headSpec (Jvm.Cond.code x code maxLocals ret :: tables_1) room_1) (lw_P b xs) (fun _ _ _ _ _ => True) lw_Q := by
  refine MetFree.of_bodyS (code := code) (maxLocals := maxLocals) (ret := ret) (by decide) ?_ ?_
  · intro args s m h hn
    obtain ⟨meth, c, h1, h2, h3, h4, h5, h6, -, -⟩ := Cond.code_spec hn (atoms_spec (ws := Jvm.Cond.code x code maxLocals ret :: tables_1) h _ List.mem_cons_self)
    exact ⟨meth, c, h1, h2, h3, h4, h5, h6⟩
  · intro p e s m args below meth c s₁ B hml0 hP _
    obtain ⟨rfl, hx, hbd, hgv⟩ := hP
    obtain ⟨scr, harrAt, hlist, hof, hsmall⟩ := hx
    obtain ⟨hcb, hkn, -, -⟩ := State.arrayAt?_spec harrAt
    have hown : s.vm.findClass R_law = some m.cls := findClass_of_methodNamed B.named
    have hts0 : ∀ c ∈ (Jvm.Cond.code x code maxLocals ret :: tables_1), c.before #[Value.ref b] s = true := atoms_spec (ws := Jvm.Cond.code x code maxLocals ret :: tables_1) B.pre
    have hts : ∀ w ∈ lw_tbl, w.before #[Value.ref b] s = true := k2_hts_sels lw_privs (fun w hw => hts0 w (List.mem_cons_of_mem _ hw)) lw_privs_ok
    have hml : c.maxLocals = 4 := B.maxLocals_eq (hts0 _ List.mem_cons_self)
    have X₀ : Stand p l e room_1 s m #[Value.ref b] below meth c s₁ [] 0 0 := Stand.of_body B
    have hh0 : s₁.heap = s.heap := by rw [B.state]; rfl
    have hsz : scr.slots.size = xs.length := by rw [← Array.length_toList, hlist, List.length_map]
    have hval : ∀ j : Nat, j < xs.length → scr.slots[j]? = some (.int (xs.getD j 0)) := fun j hj => by
      rw [← Array.getElem?_toList, hlist]
      simp [hj]
    have hbl : b < s.heap.size := (Array.getElem?_eq_some_iff.mp hcb).1
    have hX : va_X b xs.length (fun j => xs.getD j 0) s s.heap := ⟨scr, hcb, hof, hkn, hsz, hval⟩
    have K : W p l e room_1 s m #[Value.ref b] below meth c s₁.heap [] 0 0 (lw_Z below #[Value.ref b] s) (entryFrame m ([Value.ref b] : List Value).toArray 4) := by
      rw [hh0]
      exact whole_start l hflags hbd ⟨B.exec, B.bytes, B.returns, hml, hown, hts, hX, hbl, B.notSynchronized, hgv⟩
    obtain ⟨t, a1, o, b1, b2, b3⟩ := K s₁ rfl X₀
    exact ⟨t, o, a1, b1, b2, b3⟩
theorem lw_pre_spec {args : Array Value} {s : State} (h : (Jvm.Cond.and given_1 narrow_1).before args s = true) (hr : rest_1_c.before args s = true) : ∃ (b : Addr) (xs : List Int32), lw_P b xs args s := by
  have hs := flat_of_before _ h
  have hq := flat_of_before _ hr
  have hc : (Cond.count 1).before args s = true := hs _ (by decide +kernel)
  have harr : (Cond.arrayOf (.arg 0) .int).before args s = true := hs _ (by decide +kernel)
  have hle : (Cond.le (.length (.arg 0)) (.int 288)).before args s = true := hs _ (by decide +kernel)
  have hlen : (Cond.isInt (.length (.arg 0))).before args s = true := hq _ (by decide +kernel)
  have hall : (Cond.all (.arg 0) (.isInt (.elem (.arg 0) (.index 0)))).before args s = true := hq _ (by decide +kernel)
  obtain ⟨b, xs, hb, hx⟩ := State.ints_of_pre rfl harr hlen hall
  have hsm : xs.length < 2 ^ 31 := hx.choose_spec.2.2.2
  have hev : (Term.length (.arg 0)).eval args s none [] s = some (.int xs.length.toInt32) := hx.length_eval hb
  have hv := Cond.le_ints hev (show (Term.int 288).eval args s none [] s = some (.int 288) from rfl)
  have hd : xs.length.toInt32 ≤ 288 := by
    simpa [Cond.before, Cond.holds, hv] using hle
  have hN : xs.length ≤ 288 := (Int32.ofNat_le_ofNat hsm (by decide)).mp (show Int32.ofNat xs.length ≤ Int32.ofNat 288 from hd)
  exact ⟨b, xs, Cond.one_arg hc (show args[0]? = some (.ref b) from hb), hx, hN, h⟩
theorem lw_comes (l : Launch) (hflags : l.flags = flags0) : Comes l x (Jvm.Cond.code x code maxLocals ret :: tables_1) room_1 (fun tb e args s => Calls_1 tb e args s ∧ rest_1 tb e args s ∧ Pre_1 tb e args s)
    (fun _ _ args s o t => lw_Q args s o t) := by
  intro p e ha hc hk s m args below hf hfit hheap happ hpre
  obtain ⟨b, xs, hP⟩ := lw_pre_spec hpre.2.2 hpre.2.1
  obtain ⟨k, o, h1, h2, h3, hQ⟩ := lw_walk l hflags b xs p e ha hc hk s m args below hf ((Spec.applies_iff_loose hf).mp happ).1 hP trivial
  exact ⟨k, o, h1, h2, h3, hQ⟩
theorem lw_frame {s t : State} {o : Outcome} {args : Array Value} (h : Framed s o t [] 1200096 5501386) :
    Framed s o t (fieldLocs frame_1_writes args s ++ arrayLocs frame_1_arrays args s ++ staticLocs frame_1_statics s) 1200096 5501386 := h
theorem lw_limb (L : Cond) (hL : ∀ (args : Array Value) (s t : State), L.after args s (.returned (some (.int 1))) t = true) :
    ArmFor flags0 classFile x code maxLocals ret World_1 tables_1 room_1 Calls_1 rest_1 Pre_1
      (fun tb e a s o t => postC L tb e a s o t ∧ Framed s o t (fieldLocs frame_1_writes a s ++ arrayLocs frame_1_arrays a s ++ staticLocs frame_1_statics s) 1200096 5501386) := by
  intro l hflags _ _ p e ha hc hk s m args below hf hfit hheap happ hpre
  obtain ⟨k, o, h1, h2, h3, rfl, hF⟩ := lw_comes l hflags p e ha hc hk s m args below hf hfit hheap happ hpre
  exact ⟨k, _, h1, h2, h3, hL args s _, lw_frame hF⟩
theorem i_vc : Claimed_1_1 ∧ Claimed_1_2 := ⟨lw_limb limb_1_1 (fun args s t => by simp [limb_1_1, Cond.after, Cond.holds, Cond.value]), lw_limb limb_1_2 (fun args s t => Cond.after_iff.mpr (by
  first | (rw [show limb_1_2 = Cond.eq .result (.int 1) from rfl, Cond.eq_ints (x := 1) (y := 1) rfl rfl]; simp; done) | (simp [limb_1_2, Cond.value, Term.eval]; done)))⟩
end
