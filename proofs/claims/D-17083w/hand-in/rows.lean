section
-- ===== PART A: goes FIRST, ahead of the names: the tables' words, and 'selects' of the private methods out of them =====
/-- a private method of a class that the tables say can be made, by its rows of tables_1 -/
def lw_okq (q : MethodName × Nat) : Prop := (q.1.cls ≠ "java/lang/invoke/MethodHandle" ∧ q.1.cls ≠ "java/lang/invoke/VarHandle") ∧ Cond.instantiable q.1.cls q.2 ∈ tables_1 ∧ Cond.privateMethod q.1 ∈ tables_1 ∧ Cond.instanceMethod q.1 ∈ tables_1
set_option maxRecDepth 100000
theorem lw_p0 : lw_okq (⟨"java/lang/Throwable", "fillInStackTrace", "(I)Ljava/lang/Throwable;"⟩, 6) := ⟨⟨by decide +kernel, by decide +kernel⟩, List.mem_of_getElem? (i := 126) rfl, List.mem_of_getElem? (i := 124) rfl, List.mem_of_getElem? (i := 125) rfl⟩
def lw_privs_1 : List (MethodName × Nat) := [(⟨"java/lang/Throwable", "fillInStackTrace", "(I)Ljava/lang/Throwable;"⟩, 6)]
theorem lw_r1 : ∀ q ∈ lw_privs_1, lw_okq q := List.forall_mem_cons.mpr ⟨lw_p0, fun _ h => absurd h List.not_mem_nil⟩
def lw_privs : List (MethodName × Nat) := lw_privs_1
def lw_tbl : List Cond := k2_sels lw_privs ++ tables_1
theorem lw_privs_ok : ∀ q ∈ lw_privs, lw_okq q := lw_r1
-- ===== ONE list of words for every method: the tables' words that hold all through a run =====
def lw_all : List Cond := lw_tbl.filter goodWord
/-- a word of the tables by its place: claim/WORDS.tsv -/
theorem lw_w {w : Cond} (i : Nat) (h : lw_tbl[i]? = some w) (g : goodWord w = true) : w ∈ lw_all := List.mem_filter.mpr ⟨List.mem_of_getElem? h, g⟩
theorem lw_all_tbl {w : Cond} (h : w ∈ lw_all) : w ∈ lw_tbl := (List.mem_filter.mp h).1
theorem lw_self : GoodIn lw_all lw_all := fun w h => ⟨h, good_of_word (List.mem_filter.mp h).2⟩
/-- a class's field words, by their places -/
theorem lw_in (ws : List Cond) (ps : List Nat) (hp : ws = ps.filterMap (fun i => lw_tbl[i]?)) (hg : ws.all goodWord = true) : ∀ w ∈ ws, w ∈ lw_all := by
  intro w h
  have h1 := List.all_eq_true.mp hg w h
  rw [hp] at h
  obtain ⟨i, -, hi⟩ := List.mem_filterMap.mp h
  exact lw_w i hi h1
/-- the words of a contract for the method y with code b, L locals, answer r -/
abbrev ws_ (y : MethodName) (b : ByteArray) (L : Nat) (r : Option FieldType) : List Cond := Cond.code y b L r :: lw_all
theorem lw_meth {y : MethodName} {b : ByteArray} {L : Nat} {r : Option FieldType} (h : Cond.code y b L r ∈ lw_all) : GoodIn lw_all (ws_ y b L r) := by
  intro w hw
  rcases List.mem_cons.mp hw with e | e
  · rw [e]
    exact lw_self _ h
  · exact lw_self _ e
theorem lw_app {a c : List Cond} (ha : ∀ w ∈ a, w ∈ lw_all) (hc : GoodIn lw_all c) : GoodIn lw_all (a ++ c) := by
  intro w hw
  rcases List.mem_append.mp hw with e | e
  · exact lw_self w (ha w e)
  · exact hc w e
/-- what a call through an object asks: cwV n hts (lw_V ..) -/
theorem lw_V {own : String} {idx : Nat} {C : String} {y : MethodName} {b : ByteArray} {L : Nat} {r : Option FieldType} (h1 : Cond.methodLink own idx y ∈ lw_all) (h2 : Cond.instanceMethod y ∈ lw_all) (h3 : Cond.selects C y y ∈ lw_all) (h4 : Cond.initialized C ∈ lw_all) (h5 : Cond.code y b L r ∈ lw_all) : GoodIn lw_all (wsV own idx C y (ws_ y b L r)) := by
  refine lw_app ?_ (lw_meth h5)
  intro w hw
  simp only [List.mem_cons, List.not_mem_nil, or_false] at hw
  rcases hw with e | e | e | e
  · rw [e]; exact h1
  · rw [e]; exact h2
  · rw [e]; exact h3
  · rw [e]; exact h4
/-- what a static call asks: va_cwS n hts (lw_S ..) -/
theorem lw_S {own : String} {idx : Nat} {y : MethodName} {b : ByteArray} {L : Nat} {r : Option FieldType} (h1 : Cond.methodLink own idx y ∈ lw_all) (h2 : Cond.static y ∈ lw_all) (h3 : Cond.initialized y.cls ∈ lw_all) (h4 : Cond.code y b L r ∈ lw_all) : GoodIn lw_all (va_wsS own idx y (ws_ y b L r)) := by
  refine lw_app ?_ (lw_meth h4)
  intro w hw
  simp only [List.mem_cons, List.not_mem_nil, or_false] at hw
  rcases hw with e | e | e
  · rw [e]; exact h1
  · rw [e]; exact h2
  · rw [e]; exact h3
/-- the words of a contract for a method WITH HANDLERS (hh: its table) -/
abbrev wsW_ (y : MethodName) (b : ByteArray) (L : Nat) (r : Option FieldType) (hh : List (Nat × Nat × Nat × Nat)) : List Cond := Cond.codeWith y b L r hh :: lw_all
theorem lw_methW {y : MethodName} {b : ByteArray} {L : Nat} {r : Option FieldType} {hh : List (Nat × Nat × Nat × Nat)} (h : Cond.codeWith y b L r hh ∈ lw_all) : GoodIn lw_all (wsW_ y b L r hh) := by
  intro w hw
  rcases List.mem_cons.mp hw with e | e
  · rw [e]
    exact lw_self _ h
  · exact lw_self _ e
/-- any list of words by their places (lw_in), good -/
theorem lw_good {ws : List Cond} (h : ∀ w ∈ ws, w ∈ lw_all) : GoodIn lw_all ws := fun w hw => lw_self w (h w hw)
/-- what a call of a method with handlers asks: vx_cwVW n hts (lw_VW ..), vx_cwSW n hts (lw_SW ..) -/
theorem lw_VW {own : String} {idx : Nat} {C : String} {y : MethodName} {b : ByteArray} {L : Nat} {r : Option FieldType} {hh : List (Nat × Nat × Nat × Nat)} (h1 : Cond.methodLink own idx y ∈ lw_all) (h2 : Cond.instanceMethod y ∈ lw_all) (h3 : Cond.selects C y y ∈ lw_all) (h4 : Cond.initialized C ∈ lw_all) (h5 : Cond.codeWith y b L r hh ∈ lw_all) : GoodIn lw_all (wsV own idx C y (wsW_ y b L r hh)) := by
  refine lw_app ?_ (lw_methW h5)
  intro w hw
  simp only [List.mem_cons, List.not_mem_nil, or_false] at hw
  rcases hw with e | e | e | e
  · rw [e]; exact h1
  · rw [e]; exact h2
  · rw [e]; exact h3
  · rw [e]; exact h4
theorem lw_SW {own : String} {idx : Nat} {y : MethodName} {b : ByteArray} {L : Nat} {r : Option FieldType} {hh : List (Nat × Nat × Nat × Nat)} (h1 : Cond.methodLink own idx y ∈ lw_all) (h2 : Cond.static y ∈ lw_all) (h3 : Cond.initialized y.cls ∈ lw_all) (h4 : Cond.codeWith y b L r hh ∈ lw_all) : GoodIn lw_all (va_wsS own idx y (wsW_ y b L r hh)) := by
  refine lw_app ?_ (lw_methW h4)
  intro w hw
  simp only [List.mem_cons, List.not_mem_nil, or_false] at hw
  rcases hw with e | e | e
  · rw [e]; exact h1
  · rw [e]; exact h2
  · rw [e]; exact h3
/-- a word by its place in its run of the tables -/
theorem lw_at {r : List Cond} (hr : ∀ w ∈ r, w ∈ lw_tbl) {w : Cond} (i : Nat) (h : r[i]? = some w) : w ∈ lw_tbl := hr w (List.mem_of_getElem? h)
theorem lw_g {w : Cond} (h : w ∈ lw_tbl) (g : goodWord w = true) : w ∈ lw_all := List.mem_filter.mpr ⟨h, g⟩
theorem lw_ms : ∀ w ∈ k2_sels lw_privs, w ∈ lw_tbl := fun w h => show w ∈ k2_sels lw_privs ++ tables_1 from List.mem_append_left _ h
theorem lw_m0 : ∀ w ∈ tables_1, w ∈ lw_tbl := fun w h => show w ∈ k2_sels lw_privs ++ tables_1 from List.mem_append_right (k2_sels lw_privs) h
theorem qs0 : (Cond.selects "java/lang/Throwable" ⟨"java/lang/Throwable", "fillInStackTrace", "(I)Ljava/lang/Throwable;"⟩ ⟨"java/lang/Throwable", "fillInStackTrace", "(I)Ljava/lang/Throwable;"⟩) ∈ lw_all := lw_g (lw_at lw_ms 0 rfl) rfl
end
section
/-! DECODE ROWS BY BYTES: one lemma an opcode; a method's code is cut into short pieces once, and a row reads its own piece alone. -/
set_option maxRecDepth 100000
/-- the code has just these bytes from pc on -/
def DkAt (code : ByteArray) (pc : Nat) (bs : List UInt8) : Prop := ∀ (j : Nat) (b : UInt8), bs[j]? = some b → code.data.toList[pc + j]? = some b
/-- the piece W has the bytes bs from its place j on -/
def dkIn (W : List UInt8) (j : Nat) (bs : List UInt8) : Bool := decide ((W.drop j).take bs.length = bs)
theorem dk_seg {l W T : List UInt8} {o o2 : Nat} (h : l.drop o = W ++ T) (n : Nat) (hn : W.length = n) (ho : o + n = o2) : l.drop o2 = T := by
  subst ho
  rw [← List.drop_drop, h, List.drop_left' hn]
theorem dk_at {code : ByteArray} {W T bs : List UInt8} {o pc : Nat} (h : code.data.toList.drop o = W ++ T) (j : Nat) (hp : o + j = pc) (hw : dkIn W j bs = true) : DkAt code pc bs := by
  subst hp
  intro i b e
  have h1 := of_decide_eq_true hw
  have h2 : i < bs.length := (List.getElem?_eq_some_iff.mp e).1
  have h3 : W[j + i]? = some b := by
    rw [← h1, List.getElem?_take, if_pos h2, List.getElem?_drop] at e
    exact e
  have h4 : j + i < W.length := (List.getElem?_eq_some_iff.mp h3).1
  have h5 : (code.data.toList.drop o)[j + i]? = some b := by
    rw [h, List.getElem?_append_left h4]
    exact h3
  rw [List.getElem?_drop, ← Nat.add_assoc] at h5
  exact h5
theorem dk_u1 {A : ByteArray} {p : Nat} {b : UInt8} (h : A.data.toList[p]? = some b) : (Reader.u1 : Reader DecodeError Nat) A p = .ok (b.toNat, p + 1) := by
  obtain ⟨h1, h2⟩ := List.getElem?_eq_some_iff.mp h
  have h3 : p < A.size := by simpa using h1
  have h4 : A[p]'h3 = b := h2
  have e : (Reader.u1 : Reader DecodeError Nat) A p = (if h : p < A.size then .ok (A[p].toNat, p + 1) else .error (HasTruncated.truncated p)) := by
    show (do if h : p < A.size then do set (p + 1); Pure.pure A[p].toNat else MonadExcept.throw (HasTruncated.truncated p) : Reader DecodeError Nat) A p = _
    by_cases hi : p < A.size
    · rw [dif_pos hi, dif_pos hi]; rfl
    · rw [dif_neg hi, dif_neg hi]; rfl
  rw [e, dif_pos h3, h4]
theorem dk_bind {α β : Type} {r : Reader DecodeError α} {f : α → Reader DecodeError β} {A : ByteArray} {p s : Nat} {a : α} (h : r A p = .ok (a, s)) : (r >>= f) A p = f a A s := by
  show (do let (a, s) ← r A p; f a A s : Except DecodeError (β × Nat)) = _
  rw [h]
  rfl
theorem dk_map {α β : Type} {r : Reader DecodeError α} {g : α → β} {A : ByteArray} {p s : Nat} {a : α} (h : r A p = .ok (a, s)) : (g <$> r) A p = .ok (g a, s) := by
  show (do let (a, s) ← r A p; .ok (g a, s) : Except DecodeError (β × Nat)) = _
  rw [h]
  rfl
theorem dk_u2 {A : ByteArray} {p : Nat} {a b : UInt8} (h : A.data.toList[p]? = some a) (h2 : A.data.toList[p + 1]? = some b) : (Reader.u2 : Reader DecodeError Nat) A p = .ok (a.toNat * 256 + b.toNat, p + 2) := by
  show (Reader.u1 >>= fun hi => Reader.u1 >>= fun lo => Pure.pure (hi * 256 + lo) : Reader DecodeError Nat) A p = _
  rw [dk_bind (dk_u1 h), dk_bind (dk_u1 h2)]
  rfl
theorem dk_of {code : ByteArray} {pc n : Nat} {i : Instr} (h : Decoder.instr pc code pc = .ok (i, pc + n)) : decode code pc = .ok (i, n) := by
  have e : decode code pc = (match Decoder.instr pc code pc with | .error x => .error x | .ok (j, s) => .ok (j, s - pc)) := by
    show (do let (j, s) ← Decoder.instr pc code pc; Pure.pure (j, s - pc) : Except DecodeError (Instr × Nat)) = _
    cases Decoder.instr pc code pc <;> rfl
  rw [e, h]
  show Except.ok (i, pc + n - pc) = _
  rw [Nat.add_sub_cancel_left]
theorem dk_2 {code : ByteArray} {pc : Nat} (h : DkAt code pc [2]) : decode code pc = .ok (.iconst (-1), 1) := dk_of ((dk_bind (dk_u1 (h 0 _ rfl))).trans rfl)
theorem dk_3 {code : ByteArray} {pc : Nat} (h : DkAt code pc [3]) : decode code pc = .ok (.iconst 0, 1) := dk_of ((dk_bind (dk_u1 (h 0 _ rfl))).trans rfl)
theorem dk_4 {code : ByteArray} {pc : Nat} (h : DkAt code pc [4]) : decode code pc = .ok (.iconst 1, 1) := dk_of ((dk_bind (dk_u1 (h 0 _ rfl))).trans rfl)
theorem dk_5 {code : ByteArray} {pc : Nat} (h : DkAt code pc [5]) : decode code pc = .ok (.iconst 2, 1) := dk_of ((dk_bind (dk_u1 (h 0 _ rfl))).trans rfl)
theorem dk_6 {code : ByteArray} {pc : Nat} (h : DkAt code pc [6]) : decode code pc = .ok (.iconst 3, 1) := dk_of ((dk_bind (dk_u1 (h 0 _ rfl))).trans rfl)
theorem dk_7 {code : ByteArray} {pc : Nat} (h : DkAt code pc [7]) : decode code pc = .ok (.iconst 4, 1) := dk_of ((dk_bind (dk_u1 (h 0 _ rfl))).trans rfl)
theorem dk_9 {code : ByteArray} {pc : Nat} (h : DkAt code pc [9]) : decode code pc = .ok (.lconst 0, 1) := dk_of ((dk_bind (dk_u1 (h 0 _ rfl))).trans rfl)
theorem dk_16 {code : ByteArray} {pc : Nat} (a : UInt8) (h : DkAt code pc [16, a]) : decode code pc = .ok (.bipush (Reader.signed 8 a.toNat), 2) := dk_of ((dk_bind (dk_u1 (h 0 _ rfl))).trans ((dk_bind (dk_map (dk_u1 (h 1 _ rfl)))).trans rfl))
theorem dk_17 {code : ByteArray} {pc : Nat} (a b : UInt8) (h : DkAt code pc [17, a, b]) : decode code pc = .ok (.sipush (Reader.signed 16 (a.toNat * 256 + b.toNat)), 3) := dk_of ((dk_bind (dk_u1 (h 0 _ rfl))).trans ((dk_bind (dk_map (dk_u2 (h 1 _ rfl) (h 2 _ rfl)))).trans rfl))
theorem dk_18 {code : ByteArray} {pc : Nat} (a : UInt8) (h : DkAt code pc [18, a]) : decode code pc = .ok (.ldc a.toNat, 2) := dk_of ((dk_bind (dk_u1 (h 0 _ rfl))).trans ((dk_bind (dk_u1 (h 1 _ rfl))).trans rfl))
theorem dk_20 {code : ByteArray} {pc : Nat} (a b : UInt8) (h : DkAt code pc [20, a, b]) : decode code pc = .ok (.ldc2_w (a.toNat * 256 + b.toNat), 3) := dk_of ((dk_bind (dk_u1 (h 0 _ rfl))).trans ((dk_bind (dk_u2 (h 1 _ rfl) (h 2 _ rfl))).trans rfl))
theorem dk_21 {code : ByteArray} {pc : Nat} (a : UInt8) (h : DkAt code pc [21, a]) : decode code pc = .ok (.iload a.toNat, 2) := dk_of ((dk_bind (dk_u1 (h 0 _ rfl))).trans ((dk_bind (dk_u1 (h 1 _ rfl))).trans rfl))
theorem dk_22 {code : ByteArray} {pc : Nat} (a : UInt8) (h : DkAt code pc [22, a]) : decode code pc = .ok (.lload a.toNat, 2) := dk_of ((dk_bind (dk_u1 (h 0 _ rfl))).trans ((dk_bind (dk_u1 (h 1 _ rfl))).trans rfl))
theorem dk_25 {code : ByteArray} {pc : Nat} (a : UInt8) (h : DkAt code pc [25, a]) : decode code pc = .ok (.aload a.toNat, 2) := dk_of ((dk_bind (dk_u1 (h 0 _ rfl))).trans ((dk_bind (dk_u1 (h 1 _ rfl))).trans rfl))
theorem dk_26 {code : ByteArray} {pc : Nat} (h : DkAt code pc [26]) : decode code pc = .ok (.iload_n 0, 1) := dk_of ((dk_bind (dk_u1 (h 0 _ rfl))).trans rfl)
theorem dk_27 {code : ByteArray} {pc : Nat} (h : DkAt code pc [27]) : decode code pc = .ok (.iload_n 1, 1) := dk_of ((dk_bind (dk_u1 (h 0 _ rfl))).trans rfl)
theorem dk_28 {code : ByteArray} {pc : Nat} (h : DkAt code pc [28]) : decode code pc = .ok (.iload_n 2, 1) := dk_of ((dk_bind (dk_u1 (h 0 _ rfl))).trans rfl)
theorem dk_29 {code : ByteArray} {pc : Nat} (h : DkAt code pc [29]) : decode code pc = .ok (.iload_n 3, 1) := dk_of ((dk_bind (dk_u1 (h 0 _ rfl))).trans rfl)
theorem dk_30 {code : ByteArray} {pc : Nat} (h : DkAt code pc [30]) : decode code pc = .ok (.lload_n 0, 1) := dk_of ((dk_bind (dk_u1 (h 0 _ rfl))).trans rfl)
theorem dk_33 {code : ByteArray} {pc : Nat} (h : DkAt code pc [33]) : decode code pc = .ok (.lload_n 3, 1) := dk_of ((dk_bind (dk_u1 (h 0 _ rfl))).trans rfl)
theorem dk_42 {code : ByteArray} {pc : Nat} (h : DkAt code pc [42]) : decode code pc = .ok (.aload_n 0, 1) := dk_of ((dk_bind (dk_u1 (h 0 _ rfl))).trans rfl)
theorem dk_43 {code : ByteArray} {pc : Nat} (h : DkAt code pc [43]) : decode code pc = .ok (.aload_n 1, 1) := dk_of ((dk_bind (dk_u1 (h 0 _ rfl))).trans rfl)
theorem dk_44 {code : ByteArray} {pc : Nat} (h : DkAt code pc [44]) : decode code pc = .ok (.aload_n 2, 1) := dk_of ((dk_bind (dk_u1 (h 0 _ rfl))).trans rfl)
theorem dk_45 {code : ByteArray} {pc : Nat} (h : DkAt code pc [45]) : decode code pc = .ok (.aload_n 3, 1) := dk_of ((dk_bind (dk_u1 (h 0 _ rfl))).trans rfl)
theorem dk_46 {code : ByteArray} {pc : Nat} (h : DkAt code pc [46]) : decode code pc = .ok (.iaload, 1) := dk_of ((dk_bind (dk_u1 (h 0 _ rfl))).trans rfl)
theorem dk_50 {code : ByteArray} {pc : Nat} (h : DkAt code pc [50]) : decode code pc = .ok (.aaload, 1) := dk_of ((dk_bind (dk_u1 (h 0 _ rfl))).trans rfl)
theorem dk_54 {code : ByteArray} {pc : Nat} (a : UInt8) (h : DkAt code pc [54, a]) : decode code pc = .ok (.istore a.toNat, 2) := dk_of ((dk_bind (dk_u1 (h 0 _ rfl))).trans ((dk_bind (dk_u1 (h 1 _ rfl))).trans rfl))
theorem dk_55 {code : ByteArray} {pc : Nat} (a : UInt8) (h : DkAt code pc [55, a]) : decode code pc = .ok (.lstore a.toNat, 2) := dk_of ((dk_bind (dk_u1 (h 0 _ rfl))).trans ((dk_bind (dk_u1 (h 1 _ rfl))).trans rfl))
theorem dk_58 {code : ByteArray} {pc : Nat} (a : UInt8) (h : DkAt code pc [58, a]) : decode code pc = .ok (.astore a.toNat, 2) := dk_of ((dk_bind (dk_u1 (h 0 _ rfl))).trans ((dk_bind (dk_u1 (h 1 _ rfl))).trans rfl))
theorem dk_59 {code : ByteArray} {pc : Nat} (h : DkAt code pc [59]) : decode code pc = .ok (.istore_n 0, 1) := dk_of ((dk_bind (dk_u1 (h 0 _ rfl))).trans rfl)
theorem dk_60 {code : ByteArray} {pc : Nat} (h : DkAt code pc [60]) : decode code pc = .ok (.istore_n 1, 1) := dk_of ((dk_bind (dk_u1 (h 0 _ rfl))).trans rfl)
theorem dk_61 {code : ByteArray} {pc : Nat} (h : DkAt code pc [61]) : decode code pc = .ok (.istore_n 2, 1) := dk_of ((dk_bind (dk_u1 (h 0 _ rfl))).trans rfl)
theorem dk_62 {code : ByteArray} {pc : Nat} (h : DkAt code pc [62]) : decode code pc = .ok (.istore_n 3, 1) := dk_of ((dk_bind (dk_u1 (h 0 _ rfl))).trans rfl)
theorem dk_66 {code : ByteArray} {pc : Nat} (h : DkAt code pc [66]) : decode code pc = .ok (.lstore_n 3, 1) := dk_of ((dk_bind (dk_u1 (h 0 _ rfl))).trans rfl)
theorem dk_76 {code : ByteArray} {pc : Nat} (h : DkAt code pc [76]) : decode code pc = .ok (.astore_n 1, 1) := dk_of ((dk_bind (dk_u1 (h 0 _ rfl))).trans rfl)
theorem dk_77 {code : ByteArray} {pc : Nat} (h : DkAt code pc [77]) : decode code pc = .ok (.astore_n 2, 1) := dk_of ((dk_bind (dk_u1 (h 0 _ rfl))).trans rfl)
theorem dk_78 {code : ByteArray} {pc : Nat} (h : DkAt code pc [78]) : decode code pc = .ok (.astore_n 3, 1) := dk_of ((dk_bind (dk_u1 (h 0 _ rfl))).trans rfl)
theorem dk_79 {code : ByteArray} {pc : Nat} (h : DkAt code pc [79]) : decode code pc = .ok (.iastore, 1) := dk_of ((dk_bind (dk_u1 (h 0 _ rfl))).trans rfl)
theorem dk_83 {code : ByteArray} {pc : Nat} (h : DkAt code pc [83]) : decode code pc = .ok (.aastore, 1) := dk_of ((dk_bind (dk_u1 (h 0 _ rfl))).trans rfl)
theorem dk_87 {code : ByteArray} {pc : Nat} (h : DkAt code pc [87]) : decode code pc = .ok (.pop, 1) := dk_of ((dk_bind (dk_u1 (h 0 _ rfl))).trans rfl)
theorem dk_89 {code : ByteArray} {pc : Nat} (h : DkAt code pc [89]) : decode code pc = .ok (.dup, 1) := dk_of ((dk_bind (dk_u1 (h 0 _ rfl))).trans rfl)
theorem dk_96 {code : ByteArray} {pc : Nat} (h : DkAt code pc [96]) : decode code pc = .ok (.iadd, 1) := dk_of ((dk_bind (dk_u1 (h 0 _ rfl))).trans rfl)
theorem dk_97 {code : ByteArray} {pc : Nat} (h : DkAt code pc [97]) : decode code pc = .ok (.ladd, 1) := dk_of ((dk_bind (dk_u1 (h 0 _ rfl))).trans rfl)
theorem dk_100 {code : ByteArray} {pc : Nat} (h : DkAt code pc [100]) : decode code pc = .ok (.isub, 1) := dk_of ((dk_bind (dk_u1 (h 0 _ rfl))).trans rfl)
theorem dk_101 {code : ByteArray} {pc : Nat} (h : DkAt code pc [101]) : decode code pc = .ok (.lsub, 1) := dk_of ((dk_bind (dk_u1 (h 0 _ rfl))).trans rfl)
theorem dk_104 {code : ByteArray} {pc : Nat} (h : DkAt code pc [104]) : decode code pc = .ok (.imul, 1) := dk_of ((dk_bind (dk_u1 (h 0 _ rfl))).trans rfl)
theorem dk_105 {code : ByteArray} {pc : Nat} (h : DkAt code pc [105]) : decode code pc = .ok (.lmul, 1) := dk_of ((dk_bind (dk_u1 (h 0 _ rfl))).trans rfl)
theorem dk_108 {code : ByteArray} {pc : Nat} (h : DkAt code pc [108]) : decode code pc = .ok (.idiv, 1) := dk_of ((dk_bind (dk_u1 (h 0 _ rfl))).trans rfl)
theorem dk_112 {code : ByteArray} {pc : Nat} (h : DkAt code pc [112]) : decode code pc = .ok (.irem, 1) := dk_of ((dk_bind (dk_u1 (h 0 _ rfl))).trans rfl)
theorem dk_113 {code : ByteArray} {pc : Nat} (h : DkAt code pc [113]) : decode code pc = .ok (.lrem, 1) := dk_of ((dk_bind (dk_u1 (h 0 _ rfl))).trans rfl)
theorem dk_120 {code : ByteArray} {pc : Nat} (h : DkAt code pc [120]) : decode code pc = .ok (.ishl, 1) := dk_of ((dk_bind (dk_u1 (h 0 _ rfl))).trans rfl)
theorem dk_121 {code : ByteArray} {pc : Nat} (h : DkAt code pc [121]) : decode code pc = .ok (.lshl, 1) := dk_of ((dk_bind (dk_u1 (h 0 _ rfl))).trans rfl)
theorem dk_122 {code : ByteArray} {pc : Nat} (h : DkAt code pc [122]) : decode code pc = .ok (.ishr, 1) := dk_of ((dk_bind (dk_u1 (h 0 _ rfl))).trans rfl)
theorem dk_123 {code : ByteArray} {pc : Nat} (h : DkAt code pc [123]) : decode code pc = .ok (.lshr, 1) := dk_of ((dk_bind (dk_u1 (h 0 _ rfl))).trans rfl)
theorem dk_124 {code : ByteArray} {pc : Nat} (h : DkAt code pc [124]) : decode code pc = .ok (.iushr, 1) := dk_of ((dk_bind (dk_u1 (h 0 _ rfl))).trans rfl)
theorem dk_125 {code : ByteArray} {pc : Nat} (h : DkAt code pc [125]) : decode code pc = .ok (.lushr, 1) := dk_of ((dk_bind (dk_u1 (h 0 _ rfl))).trans rfl)
theorem dk_126 {code : ByteArray} {pc : Nat} (h : DkAt code pc [126]) : decode code pc = .ok (.iand, 1) := dk_of ((dk_bind (dk_u1 (h 0 _ rfl))).trans rfl)
theorem dk_127 {code : ByteArray} {pc : Nat} (h : DkAt code pc [127]) : decode code pc = .ok (.land, 1) := dk_of ((dk_bind (dk_u1 (h 0 _ rfl))).trans rfl)
theorem dk_129 {code : ByteArray} {pc : Nat} (h : DkAt code pc [129]) : decode code pc = .ok (.lor, 1) := dk_of ((dk_bind (dk_u1 (h 0 _ rfl))).trans rfl)
theorem dk_130 {code : ByteArray} {pc : Nat} (h : DkAt code pc [130]) : decode code pc = .ok (.ixor, 1) := dk_of ((dk_bind (dk_u1 (h 0 _ rfl))).trans rfl)
theorem dk_132 {code : ByteArray} {pc : Nat} (a b : UInt8) (h : DkAt code pc [132, a, b]) : decode code pc = .ok (.iinc a.toNat (Reader.signed 8 b.toNat), 3) := dk_of ((dk_bind (dk_u1 (h 0 _ rfl))).trans ((dk_bind (dk_u1 (h 1 _ rfl))).trans ((dk_bind (dk_map (dk_u1 (h 2 _ rfl)))).trans rfl)))
theorem dk_133 {code : ByteArray} {pc : Nat} (h : DkAt code pc [133]) : decode code pc = .ok (.i2l, 1) := dk_of ((dk_bind (dk_u1 (h 0 _ rfl))).trans rfl)
theorem dk_136 {code : ByteArray} {pc : Nat} (h : DkAt code pc [136]) : decode code pc = .ok (.l2i, 1) := dk_of ((dk_bind (dk_u1 (h 0 _ rfl))).trans rfl)
theorem dk_148 {code : ByteArray} {pc : Nat} (h : DkAt code pc [148]) : decode code pc = .ok (.lcmp, 1) := dk_of ((dk_bind (dk_u1 (h 0 _ rfl))).trans rfl)
theorem dk_154 {code : ByteArray} {pc : Nat} (a b : UInt8) (h : DkAt code pc [154, a, b]) : decode code pc = .ok (.ifCond .ne (Reader.signed 16 (a.toNat * 256 + b.toNat)), 3) := dk_of ((dk_bind (dk_u1 (h 0 _ rfl))).trans ((dk_bind (dk_map (dk_u2 (h 1 _ rfl) (h 2 _ rfl)))).trans rfl))
theorem dk_156 {code : ByteArray} {pc : Nat} (a b : UInt8) (h : DkAt code pc [156, a, b]) : decode code pc = .ok (.ifCond .ge (Reader.signed 16 (a.toNat * 256 + b.toNat)), 3) := dk_of ((dk_bind (dk_u1 (h 0 _ rfl))).trans ((dk_bind (dk_map (dk_u2 (h 1 _ rfl) (h 2 _ rfl)))).trans rfl))
theorem dk_158 {code : ByteArray} {pc : Nat} (a b : UInt8) (h : DkAt code pc [158, a, b]) : decode code pc = .ok (.ifCond .le (Reader.signed 16 (a.toNat * 256 + b.toNat)), 3) := dk_of ((dk_bind (dk_u1 (h 0 _ rfl))).trans ((dk_bind (dk_map (dk_u2 (h 1 _ rfl) (h 2 _ rfl)))).trans rfl))
theorem dk_159 {code : ByteArray} {pc : Nat} (a b : UInt8) (h : DkAt code pc [159, a, b]) : decode code pc = .ok (.if_icmp .eq (Reader.signed 16 (a.toNat * 256 + b.toNat)), 3) := dk_of ((dk_bind (dk_u1 (h 0 _ rfl))).trans ((dk_bind (dk_map (dk_u2 (h 1 _ rfl) (h 2 _ rfl)))).trans rfl))
theorem dk_160 {code : ByteArray} {pc : Nat} (a b : UInt8) (h : DkAt code pc [160, a, b]) : decode code pc = .ok (.if_icmp .ne (Reader.signed 16 (a.toNat * 256 + b.toNat)), 3) := dk_of ((dk_bind (dk_u1 (h 0 _ rfl))).trans ((dk_bind (dk_map (dk_u2 (h 1 _ rfl) (h 2 _ rfl)))).trans rfl))
theorem dk_162 {code : ByteArray} {pc : Nat} (a b : UInt8) (h : DkAt code pc [162, a, b]) : decode code pc = .ok (.if_icmp .ge (Reader.signed 16 (a.toNat * 256 + b.toNat)), 3) := dk_of ((dk_bind (dk_u1 (h 0 _ rfl))).trans ((dk_bind (dk_map (dk_u2 (h 1 _ rfl) (h 2 _ rfl)))).trans rfl))
theorem dk_163 {code : ByteArray} {pc : Nat} (a b : UInt8) (h : DkAt code pc [163, a, b]) : decode code pc = .ok (.if_icmp .gt (Reader.signed 16 (a.toNat * 256 + b.toNat)), 3) := dk_of ((dk_bind (dk_u1 (h 0 _ rfl))).trans ((dk_bind (dk_map (dk_u2 (h 1 _ rfl) (h 2 _ rfl)))).trans rfl))
theorem dk_164 {code : ByteArray} {pc : Nat} (a b : UInt8) (h : DkAt code pc [164, a, b]) : decode code pc = .ok (.if_icmp .le (Reader.signed 16 (a.toNat * 256 + b.toNat)), 3) := dk_of ((dk_bind (dk_u1 (h 0 _ rfl))).trans ((dk_bind (dk_map (dk_u2 (h 1 _ rfl) (h 2 _ rfl)))).trans rfl))
theorem dk_167 {code : ByteArray} {pc : Nat} (a b : UInt8) (h : DkAt code pc [167, a, b]) : decode code pc = .ok (.goto (Reader.signed 16 (a.toNat * 256 + b.toNat)), 3) := dk_of ((dk_bind (dk_u1 (h 0 _ rfl))).trans ((dk_bind (dk_map (dk_u2 (h 1 _ rfl) (h 2 _ rfl)))).trans rfl))
theorem dk_172 {code : ByteArray} {pc : Nat} (h : DkAt code pc [172]) : decode code pc = .ok (.ireturn, 1) := dk_of ((dk_bind (dk_u1 (h 0 _ rfl))).trans rfl)
theorem dk_173 {code : ByteArray} {pc : Nat} (h : DkAt code pc [173]) : decode code pc = .ok (.lreturn, 1) := dk_of ((dk_bind (dk_u1 (h 0 _ rfl))).trans rfl)
theorem dk_177 {code : ByteArray} {pc : Nat} (h : DkAt code pc [177]) : decode code pc = .ok (.return_, 1) := dk_of ((dk_bind (dk_u1 (h 0 _ rfl))).trans rfl)
theorem dk_178 {code : ByteArray} {pc : Nat} (a b : UInt8) (h : DkAt code pc [178, a, b]) : decode code pc = .ok (.getstatic (a.toNat * 256 + b.toNat), 3) := dk_of ((dk_bind (dk_u1 (h 0 _ rfl))).trans ((dk_bind (dk_u2 (h 1 _ rfl) (h 2 _ rfl))).trans rfl))
theorem dk_180 {code : ByteArray} {pc : Nat} (a b : UInt8) (h : DkAt code pc [180, a, b]) : decode code pc = .ok (.getfield (a.toNat * 256 + b.toNat), 3) := dk_of ((dk_bind (dk_u1 (h 0 _ rfl))).trans ((dk_bind (dk_u2 (h 1 _ rfl) (h 2 _ rfl))).trans rfl))
theorem dk_181 {code : ByteArray} {pc : Nat} (a b : UInt8) (h : DkAt code pc [181, a, b]) : decode code pc = .ok (.putfield (a.toNat * 256 + b.toNat), 3) := dk_of ((dk_bind (dk_u1 (h 0 _ rfl))).trans ((dk_bind (dk_u2 (h 1 _ rfl) (h 2 _ rfl))).trans rfl))
theorem dk_182 {code : ByteArray} {pc : Nat} (a b : UInt8) (h : DkAt code pc [182, a, b]) : decode code pc = .ok (.invokevirtual (a.toNat * 256 + b.toNat), 3) := dk_of ((dk_bind (dk_u1 (h 0 _ rfl))).trans ((dk_bind (dk_u2 (h 1 _ rfl) (h 2 _ rfl))).trans rfl))
theorem dk_183 {code : ByteArray} {pc : Nat} (a b : UInt8) (h : DkAt code pc [183, a, b]) : decode code pc = .ok (.invokespecial (a.toNat * 256 + b.toNat), 3) := dk_of ((dk_bind (dk_u1 (h 0 _ rfl))).trans ((dk_bind (dk_u2 (h 1 _ rfl) (h 2 _ rfl))).trans rfl))
theorem dk_184 {code : ByteArray} {pc : Nat} (a b : UInt8) (h : DkAt code pc [184, a, b]) : decode code pc = .ok (.invokestatic (a.toNat * 256 + b.toNat), 3) := dk_of ((dk_bind (dk_u1 (h 0 _ rfl))).trans ((dk_bind (dk_u2 (h 1 _ rfl) (h 2 _ rfl))).trans rfl))
theorem dk_187 {code : ByteArray} {pc : Nat} (a b : UInt8) (h : DkAt code pc [187, a, b]) : decode code pc = .ok (.new (a.toNat * 256 + b.toNat), 3) := dk_of ((dk_bind (dk_u1 (h 0 _ rfl))).trans ((dk_bind (dk_u2 (h 1 _ rfl) (h 2 _ rfl))).trans rfl))
theorem dk_188_10 {code : ByteArray} {pc : Nat} (h : DkAt code pc [188, 10]) : decode code pc = .ok (.newarray .int, 2) := dk_of ((dk_bind (dk_u1 (h 0 _ rfl))).trans ((dk_bind (dk_u1 (h 1 _ rfl))).trans rfl))
theorem dk_190 {code : ByteArray} {pc : Nat} (h : DkAt code pc [190]) : decode code pc = .ok (.arraylength, 1) := dk_of ((dk_bind (dk_u1 (h 0 _ rfl))).trans rfl)
theorem dk_191 {code : ByteArray} {pc : Nat} (h : DkAt code pc [191]) : decode code pc = .ok (.athrow, 1) := dk_of ((dk_bind (dk_u1 (h 0 _ rfl))).trans rfl)
end
section
/-! java/lang/Object -/
set_option maxRecDepth 100000
def RJ3 : String := "java/lang/Object"
abbrev cJ3_init : ByteArray := object_method_1_code
def yJ3_init : MethodName := ⟨RJ3, "<init>", "()V"⟩
theorem dJ3_init_0 : decode cJ3_init 0 = .ok (.return_, 1) := by decide +kernel
theorem q16 : (Jvm.Cond.instanceMethod ({ cls := "java/lang/Object", name := "<init>", desc := "()V" } : Jvm.MethodName)) ∈ lw_all := lw_g (lw_at lw_m0 15 rfl) rfl
theorem q17 : (Jvm.Cond.code ({ cls := "java/lang/Object", name := "<init>", desc := "()V" } : Jvm.MethodName) object_method_1_code (1 : Nat) (Option.none : Option Jvm.ClassFile.FieldType)) ∈ lw_all := lw_g (lw_at lw_m0 16 rfl) rfl

theorem q19 : (Jvm.Cond.arrayOver (Jvm.ClassFile.FieldType.array Jvm.ClassFile.FieldType.int)) ∈ lw_tbl := lw_at lw_m0 18 rfl
set_option maxRecDepth 100000
theorem q24 : (Jvm.Cond.arrayClass Jvm.ClassFile.FieldType.int) ∈ lw_all := lw_g (lw_at lw_m0 23 rfl) rfl
theorem q152 : (Jvm.Cond.arrayClass Jvm.ClassFile.FieldType.byte) ∈ lw_all := lw_g (lw_at lw_m0 151 rfl) rfl

/-! Reduce -/
set_option maxRecDepth 100000
def RX3 : String := "Reduce"
abbrev cX3_montgomeryReduce : ByteArray := prog_6_method_2_code
def yX3_montgomeryReduce : MethodName := ⟨RX3, "montgomeryReduce", "(J)I"⟩
def dkwX3_montgomeryReduce_0 : List UInt8 := [30, 20, 0, 9, 105, 136, 61, 30, 28, 133, 20, 0, 11, 105, 101, 16, 32, 125, 136, 61, 28, 172]
abbrev dktX3_montgomeryReduce_0 : List UInt8 := dkwX3_montgomeryReduce_0 ++ []
theorem dksX3_montgomeryReduce_0 : cX3_montgomeryReduce.data.toList.drop 0 = dktX3_montgomeryReduce_0 := by decide +kernel
theorem dX3_montgomeryReduce_0 : decode cX3_montgomeryReduce 0 = .ok (.lload_n 0, 1) := dk_30 (dk_at dksX3_montgomeryReduce_0 0 rfl rfl)
theorem dX3_montgomeryReduce_1 : decode cX3_montgomeryReduce 1 = .ok (.ldc2_w 9, 3) := dk_20 0 9 (dk_at dksX3_montgomeryReduce_0 1 rfl rfl)
theorem dX3_montgomeryReduce_4 : decode cX3_montgomeryReduce 4 = .ok (.lmul, 1) := dk_105 (dk_at dksX3_montgomeryReduce_0 4 rfl rfl)
theorem dX3_montgomeryReduce_5 : decode cX3_montgomeryReduce 5 = .ok (.l2i, 1) := dk_136 (dk_at dksX3_montgomeryReduce_0 5 rfl rfl)
theorem dX3_montgomeryReduce_6 : decode cX3_montgomeryReduce 6 = .ok (.istore_n 2, 1) := dk_61 (dk_at dksX3_montgomeryReduce_0 6 rfl rfl)
theorem dX3_montgomeryReduce_7 : decode cX3_montgomeryReduce 7 = .ok (.lload_n 0, 1) := dk_30 (dk_at dksX3_montgomeryReduce_0 7 rfl rfl)
theorem dX3_montgomeryReduce_8 : decode cX3_montgomeryReduce 8 = .ok (.iload_n 2, 1) := dk_28 (dk_at dksX3_montgomeryReduce_0 8 rfl rfl)
theorem dX3_montgomeryReduce_9 : decode cX3_montgomeryReduce 9 = .ok (.i2l, 1) := dk_133 (dk_at dksX3_montgomeryReduce_0 9 rfl rfl)
theorem dX3_montgomeryReduce_10 : decode cX3_montgomeryReduce 10 = .ok (.ldc2_w 11, 3) := dk_20 0 11 (dk_at dksX3_montgomeryReduce_0 10 rfl rfl)
theorem dX3_montgomeryReduce_13 : decode cX3_montgomeryReduce 13 = .ok (.lmul, 1) := dk_105 (dk_at dksX3_montgomeryReduce_0 13 rfl rfl)
theorem dX3_montgomeryReduce_14 : decode cX3_montgomeryReduce 14 = .ok (.lsub, 1) := dk_101 (dk_at dksX3_montgomeryReduce_0 14 rfl rfl)
theorem dX3_montgomeryReduce_15 : decode cX3_montgomeryReduce 15 = .ok (.bipush 32, 2) := dk_16 32 (dk_at dksX3_montgomeryReduce_0 15 rfl rfl)
theorem dX3_montgomeryReduce_17 : decode cX3_montgomeryReduce 17 = .ok (.lushr, 1) := dk_125 (dk_at dksX3_montgomeryReduce_0 17 rfl rfl)
theorem dX3_montgomeryReduce_18 : decode cX3_montgomeryReduce 18 = .ok (.l2i, 1) := dk_136 (dk_at dksX3_montgomeryReduce_0 18 rfl rfl)
theorem dX3_montgomeryReduce_19 : decode cX3_montgomeryReduce 19 = .ok (.istore_n 2, 1) := dk_61 (dk_at dksX3_montgomeryReduce_0 19 rfl rfl)
theorem dX3_montgomeryReduce_20 : decode cX3_montgomeryReduce 20 = .ok (.iload_n 2, 1) := dk_28 (dk_at dksX3_montgomeryReduce_0 20 rfl rfl)
theorem dX3_montgomeryReduce_21 : decode cX3_montgomeryReduce 21 = .ok (.ireturn, 1) := dk_172 (dk_at dksX3_montgomeryReduce_0 21 rfl rfl)
abbrev cX3_reduce32 : ByteArray := prog_6_method_3_code
def yX3_reduce32 : MethodName := ⟨RX3, "reduce32", "(I)I"⟩
def dkwX3_reduce32_0 : List UInt8 := [26, 18, 13, 96, 16, 23, 122, 60, 26, 27, 18, 14, 104, 100, 60, 27, 172]
abbrev dktX3_reduce32_0 : List UInt8 := dkwX3_reduce32_0 ++ []
theorem dksX3_reduce32_0 : cX3_reduce32.data.toList.drop 0 = dktX3_reduce32_0 := by decide +kernel
theorem dX3_reduce32_0 : decode cX3_reduce32 0 = .ok (.iload_n 0, 1) := dk_26 (dk_at dksX3_reduce32_0 0 rfl rfl)
theorem dX3_reduce32_1 : decode cX3_reduce32 1 = .ok (.ldc 13, 2) := dk_18 13 (dk_at dksX3_reduce32_0 1 rfl rfl)
theorem dX3_reduce32_3 : decode cX3_reduce32 3 = .ok (.iadd, 1) := dk_96 (dk_at dksX3_reduce32_0 3 rfl rfl)
theorem dX3_reduce32_4 : decode cX3_reduce32 4 = .ok (.bipush 23, 2) := dk_16 23 (dk_at dksX3_reduce32_0 4 rfl rfl)
theorem dX3_reduce32_6 : decode cX3_reduce32 6 = .ok (.ishr, 1) := dk_122 (dk_at dksX3_reduce32_0 6 rfl rfl)
theorem dX3_reduce32_7 : decode cX3_reduce32 7 = .ok (.istore_n 1, 1) := dk_60 (dk_at dksX3_reduce32_0 7 rfl rfl)
theorem dX3_reduce32_8 : decode cX3_reduce32 8 = .ok (.iload_n 0, 1) := dk_26 (dk_at dksX3_reduce32_0 8 rfl rfl)
theorem dX3_reduce32_9 : decode cX3_reduce32 9 = .ok (.iload_n 1, 1) := dk_27 (dk_at dksX3_reduce32_0 9 rfl rfl)
theorem dX3_reduce32_10 : decode cX3_reduce32 10 = .ok (.ldc 14, 2) := dk_18 14 (dk_at dksX3_reduce32_0 10 rfl rfl)
theorem dX3_reduce32_12 : decode cX3_reduce32 12 = .ok (.imul, 1) := dk_104 (dk_at dksX3_reduce32_0 12 rfl rfl)
theorem dX3_reduce32_13 : decode cX3_reduce32 13 = .ok (.isub, 1) := dk_100 (dk_at dksX3_reduce32_0 13 rfl rfl)
theorem dX3_reduce32_14 : decode cX3_reduce32 14 = .ok (.istore_n 1, 1) := dk_60 (dk_at dksX3_reduce32_0 14 rfl rfl)
theorem dX3_reduce32_15 : decode cX3_reduce32 15 = .ok (.iload_n 1, 1) := dk_27 (dk_at dksX3_reduce32_0 15 rfl rfl)
theorem dX3_reduce32_16 : decode cX3_reduce32 16 = .ok (.ireturn, 1) := dk_172 (dk_at dksX3_reduce32_0 16 rfl rfl)
abbrev cX3_conditionalAddQ : ByteArray := prog_6_method_4_code
def yX3_conditionalAddQ : MethodName := ⟨RX3, "conditionalAddQ", "(I)I"⟩
def dkwX3_conditionalAddQ_0 : List UInt8 := [26, 26, 16, 31, 122, 18, 14, 126, 96, 59, 26, 172]
abbrev dktX3_conditionalAddQ_0 : List UInt8 := dkwX3_conditionalAddQ_0 ++ []
theorem dksX3_conditionalAddQ_0 : cX3_conditionalAddQ.data.toList.drop 0 = dktX3_conditionalAddQ_0 := by decide +kernel
theorem dX3_conditionalAddQ_0 : decode cX3_conditionalAddQ 0 = .ok (.iload_n 0, 1) := dk_26 (dk_at dksX3_conditionalAddQ_0 0 rfl rfl)
theorem dX3_conditionalAddQ_1 : decode cX3_conditionalAddQ 1 = .ok (.iload_n 0, 1) := dk_26 (dk_at dksX3_conditionalAddQ_0 1 rfl rfl)
theorem dX3_conditionalAddQ_2 : decode cX3_conditionalAddQ 2 = .ok (.bipush 31, 2) := dk_16 31 (dk_at dksX3_conditionalAddQ_0 2 rfl rfl)
theorem dX3_conditionalAddQ_4 : decode cX3_conditionalAddQ 4 = .ok (.ishr, 1) := dk_122 (dk_at dksX3_conditionalAddQ_0 4 rfl rfl)
theorem dX3_conditionalAddQ_5 : decode cX3_conditionalAddQ 5 = .ok (.ldc 14, 2) := dk_18 14 (dk_at dksX3_conditionalAddQ_0 5 rfl rfl)
theorem dX3_conditionalAddQ_7 : decode cX3_conditionalAddQ 7 = .ok (.iand, 1) := dk_126 (dk_at dksX3_conditionalAddQ_0 7 rfl rfl)
theorem dX3_conditionalAddQ_8 : decode cX3_conditionalAddQ 8 = .ok (.iadd, 1) := dk_96 (dk_at dksX3_conditionalAddQ_0 8 rfl rfl)
theorem dX3_conditionalAddQ_9 : decode cX3_conditionalAddQ 9 = .ok (.istore_n 0, 1) := dk_59 (dk_at dksX3_conditionalAddQ_0 9 rfl rfl)
theorem dX3_conditionalAddQ_10 : decode cX3_conditionalAddQ 10 = .ok (.iload_n 0, 1) := dk_26 (dk_at dksX3_conditionalAddQ_0 10 rfl rfl)
theorem dX3_conditionalAddQ_11 : decode cX3_conditionalAddQ 11 = .ok (.ireturn, 1) := dk_172 (dk_at dksX3_conditionalAddQ_0 11 rfl rfl)
theorem q5 : (Jvm.Cond.initialized "Reduce") ∈ lw_all := lw_g (lw_at lw_m0 4 rfl) rfl
theorem q48 : (Jvm.Cond.static ({ cls := "Reduce", name := "montgomeryReduce", desc := "(J)I" } : Jvm.MethodName)) ∈ lw_all := lw_g (lw_at lw_m0 47 rfl) rfl
theorem q49 : (Jvm.Cond.code ({ cls := "Reduce", name := "montgomeryReduce", desc := "(J)I" } : Jvm.MethodName) prog_6_method_2_code (3 : Nat) (Option.some Jvm.ClassFile.FieldType.int)) ∈ lw_all := lw_g (lw_at lw_m0 48 rfl) rfl
theorem q50 : (Jvm.Cond.constantLong "Reduce" (9 : Nat) (58728449 : Int64)) ∈ lw_all := lw_g (lw_at lw_m0 49 rfl) rfl
theorem q51 : (Jvm.Cond.constantLong "Reduce" (11 : Nat) (8380417 : Int64)) ∈ lw_all := lw_g (lw_at lw_m0 50 rfl) rfl
theorem q61 : (Jvm.Cond.static ({ cls := "Reduce", name := "reduce32", desc := "(I)I" } : Jvm.MethodName)) ∈ lw_all := lw_g (lw_at lw_m0 60 rfl) rfl
theorem q62 : (Jvm.Cond.code ({ cls := "Reduce", name := "reduce32", desc := "(I)I" } : Jvm.MethodName) prog_6_method_3_code (2 : Nat) (Option.some Jvm.ClassFile.FieldType.int)) ∈ lw_all := lw_g (lw_at lw_m0 61 rfl) rfl
theorem q63 : (Jvm.Cond.constant "Reduce" (13 : Nat) (4194304 : Int32)) ∈ lw_all := lw_g (lw_at lw_m0 62 rfl) rfl
theorem q64 : (Jvm.Cond.constant "Reduce" (14 : Nat) (8380417 : Int32)) ∈ lw_all := lw_g (lw_at lw_m0 63 rfl) rfl
theorem q66 : (Jvm.Cond.static ({ cls := "Reduce", name := "conditionalAddQ", desc := "(I)I" } : Jvm.MethodName)) ∈ lw_all := lw_g (lw_at lw_m0 65 rfl) rfl
theorem q67 : (Jvm.Cond.code ({ cls := "Reduce", name := "conditionalAddQ", desc := "(I)I" } : Jvm.MethodName) prog_6_method_4_code (1 : Nat) (Option.some Jvm.ClassFile.FieldType.int)) ∈ lw_all := lw_g (lw_at lw_m0 66 rfl) rfl

/-! Rounding -/
set_option maxRecDepth 100000
def RX4 : String := "Rounding"
abbrev cX4_useHint : ByteArray := prog_7_method_3_code
def yX4_useHint : MethodName := ⟨RX4, "useHint", "(III)I"⟩
def dkwX4_useHint_4 : List UInt8 := [187, 0, 13, 89, 18, 15, 183, 0, 17, 191]
abbrev dktX4_useHint_4 : List UInt8 := dkwX4_useHint_4 ++ []
def dkwX4_useHint_3 : List UInt8 := [167, 0, 7, 21, 6, 4, 96, 172, 21, 6, 154, 0, 8, 16, 43, 167, 0, 7, 21, 6, 4, 100, 172]
abbrev dktX4_useHint_3 : List UInt8 := dkwX4_useHint_3 ++ dktX4_useHint_4
def dkwX4_useHint_2 : List UInt8 := [16, 15, 126, 172, 28, 18, 11, 160, 0, 39, 21, 5, 158, 0, 19, 21, 6, 16, 43, 160, 0, 7, 3]
abbrev dktX4_useHint_2 : List UInt8 := dkwX4_useHint_2 ++ dktX4_useHint_3
def dkwX4_useHint_1 : List UInt8 := [28, 18, 9, 160, 0, 24, 21, 5, 158, 0, 11, 21, 6, 4, 96, 16, 15, 126, 172, 21, 6, 4, 100]
abbrev dktX4_useHint_1 : List UInt8 := dkwX4_useHint_1 ++ dktX4_useHint_2
def dkwX4_useHint_0 : List UInt8 := [26, 28, 184, 0, 24, 66, 33, 16, 32, 123, 136, 54, 5, 33, 136, 54, 6, 27, 154, 0, 6, 21, 6, 172]
abbrev dktX4_useHint_0 : List UInt8 := dkwX4_useHint_0 ++ dktX4_useHint_1
theorem dksX4_useHint_0 : cX4_useHint.data.toList.drop 0 = dktX4_useHint_0 := by decide +kernel
theorem dksX4_useHint_1 : cX4_useHint.data.toList.drop 24 = dktX4_useHint_1 := dk_seg dksX4_useHint_0 24 rfl rfl
theorem dksX4_useHint_2 : cX4_useHint.data.toList.drop 47 = dktX4_useHint_2 := dk_seg dksX4_useHint_1 23 rfl rfl
theorem dksX4_useHint_3 : cX4_useHint.data.toList.drop 70 = dktX4_useHint_3 := dk_seg dksX4_useHint_2 23 rfl rfl
theorem dksX4_useHint_4 : cX4_useHint.data.toList.drop 93 = dktX4_useHint_4 := dk_seg dksX4_useHint_3 23 rfl rfl
theorem dX4_useHint_0 : decode cX4_useHint 0 = .ok (.iload_n 0, 1) := dk_26 (dk_at dksX4_useHint_0 0 rfl rfl)
theorem dX4_useHint_1 : decode cX4_useHint 1 = .ok (.iload_n 2, 1) := dk_28 (dk_at dksX4_useHint_0 1 rfl rfl)
theorem dX4_useHint_2 : decode cX4_useHint 2 = .ok (.invokestatic 24, 3) := dk_184 0 24 (dk_at dksX4_useHint_0 2 rfl rfl)
theorem dX4_useHint_5 : decode cX4_useHint 5 = .ok (.lstore_n 3, 1) := dk_66 (dk_at dksX4_useHint_0 5 rfl rfl)
theorem dX4_useHint_6 : decode cX4_useHint 6 = .ok (.lload_n 3, 1) := dk_33 (dk_at dksX4_useHint_0 6 rfl rfl)
theorem dX4_useHint_7 : decode cX4_useHint 7 = .ok (.bipush 32, 2) := dk_16 32 (dk_at dksX4_useHint_0 7 rfl rfl)
theorem dX4_useHint_9 : decode cX4_useHint 9 = .ok (.lshr, 1) := dk_123 (dk_at dksX4_useHint_0 9 rfl rfl)
theorem dX4_useHint_10 : decode cX4_useHint 10 = .ok (.l2i, 1) := dk_136 (dk_at dksX4_useHint_0 10 rfl rfl)
theorem dX4_useHint_11 : decode cX4_useHint 11 = .ok (.istore 5, 2) := dk_54 5 (dk_at dksX4_useHint_0 11 rfl rfl)
theorem dX4_useHint_13 : decode cX4_useHint 13 = .ok (.lload_n 3, 1) := dk_33 (dk_at dksX4_useHint_0 13 rfl rfl)
theorem dX4_useHint_14 : decode cX4_useHint 14 = .ok (.l2i, 1) := dk_136 (dk_at dksX4_useHint_0 14 rfl rfl)
theorem dX4_useHint_15 : decode cX4_useHint 15 = .ok (.istore 6, 2) := dk_54 6 (dk_at dksX4_useHint_0 15 rfl rfl)
theorem dX4_useHint_17 : decode cX4_useHint 17 = .ok (.iload_n 1, 1) := dk_27 (dk_at dksX4_useHint_0 17 rfl rfl)
theorem dX4_useHint_18 : decode cX4_useHint 18 = .ok (.ifCond .ne 6, 3) := dk_154 0 6 (dk_at dksX4_useHint_0 18 rfl rfl)
theorem dX4_useHint_21 : decode cX4_useHint 21 = .ok (.iload 6, 2) := dk_21 6 (dk_at dksX4_useHint_0 21 rfl rfl)
theorem dX4_useHint_23 : decode cX4_useHint 23 = .ok (.ireturn, 1) := dk_172 (dk_at dksX4_useHint_0 23 rfl rfl)
theorem dX4_useHint_24 : decode cX4_useHint 24 = .ok (.iload_n 2, 1) := dk_28 (dk_at dksX4_useHint_1 0 rfl rfl)
theorem dX4_useHint_25 : decode cX4_useHint 25 = .ok (.ldc 9, 2) := dk_18 9 (dk_at dksX4_useHint_1 1 rfl rfl)
theorem dX4_useHint_27 : decode cX4_useHint 27 = .ok (.if_icmp .ne 24, 3) := dk_160 0 24 (dk_at dksX4_useHint_1 3 rfl rfl)
theorem dX4_useHint_30 : decode cX4_useHint 30 = .ok (.iload 5, 2) := dk_21 5 (dk_at dksX4_useHint_1 6 rfl rfl)
theorem dX4_useHint_32 : decode cX4_useHint 32 = .ok (.ifCond .le 11, 3) := dk_158 0 11 (dk_at dksX4_useHint_1 8 rfl rfl)
theorem dX4_useHint_35 : decode cX4_useHint 35 = .ok (.iload 6, 2) := dk_21 6 (dk_at dksX4_useHint_1 11 rfl rfl)
theorem dX4_useHint_37 : decode cX4_useHint 37 = .ok (.iconst 1, 1) := dk_4 (dk_at dksX4_useHint_1 13 rfl rfl)
theorem dX4_useHint_38 : decode cX4_useHint 38 = .ok (.iadd, 1) := dk_96 (dk_at dksX4_useHint_1 14 rfl rfl)
theorem dX4_useHint_39 : decode cX4_useHint 39 = .ok (.bipush 15, 2) := dk_16 15 (dk_at dksX4_useHint_1 15 rfl rfl)
theorem dX4_useHint_41 : decode cX4_useHint 41 = .ok (.iand, 1) := dk_126 (dk_at dksX4_useHint_1 17 rfl rfl)
theorem dX4_useHint_42 : decode cX4_useHint 42 = .ok (.ireturn, 1) := dk_172 (dk_at dksX4_useHint_1 18 rfl rfl)
theorem dX4_useHint_43 : decode cX4_useHint 43 = .ok (.iload 6, 2) := dk_21 6 (dk_at dksX4_useHint_1 19 rfl rfl)
theorem dX4_useHint_45 : decode cX4_useHint 45 = .ok (.iconst 1, 1) := dk_4 (dk_at dksX4_useHint_1 21 rfl rfl)
theorem dX4_useHint_46 : decode cX4_useHint 46 = .ok (.isub, 1) := dk_100 (dk_at dksX4_useHint_1 22 rfl rfl)
theorem dX4_useHint_47 : decode cX4_useHint 47 = .ok (.bipush 15, 2) := dk_16 15 (dk_at dksX4_useHint_2 0 rfl rfl)
theorem dX4_useHint_49 : decode cX4_useHint 49 = .ok (.iand, 1) := dk_126 (dk_at dksX4_useHint_2 2 rfl rfl)
theorem dX4_useHint_50 : decode cX4_useHint 50 = .ok (.ireturn, 1) := dk_172 (dk_at dksX4_useHint_2 3 rfl rfl)
theorem dX4_useHint_51 : decode cX4_useHint 51 = .ok (.iload_n 2, 1) := dk_28 (dk_at dksX4_useHint_2 4 rfl rfl)
theorem dX4_useHint_52 : decode cX4_useHint 52 = .ok (.ldc 11, 2) := dk_18 11 (dk_at dksX4_useHint_2 5 rfl rfl)
theorem dX4_useHint_54 : decode cX4_useHint 54 = .ok (.if_icmp .ne 39, 3) := dk_160 0 39 (dk_at dksX4_useHint_2 7 rfl rfl)
theorem dX4_useHint_57 : decode cX4_useHint 57 = .ok (.iload 5, 2) := dk_21 5 (dk_at dksX4_useHint_2 10 rfl rfl)
theorem dX4_useHint_59 : decode cX4_useHint 59 = .ok (.ifCond .le 19, 3) := dk_158 0 19 (dk_at dksX4_useHint_2 12 rfl rfl)
theorem dX4_useHint_62 : decode cX4_useHint 62 = .ok (.iload 6, 2) := dk_21 6 (dk_at dksX4_useHint_2 15 rfl rfl)
theorem dX4_useHint_64 : decode cX4_useHint 64 = .ok (.bipush 43, 2) := dk_16 43 (dk_at dksX4_useHint_2 17 rfl rfl)
theorem dX4_useHint_66 : decode cX4_useHint 66 = .ok (.if_icmp .ne 7, 3) := dk_160 0 7 (dk_at dksX4_useHint_2 19 rfl rfl)
theorem dX4_useHint_69 : decode cX4_useHint 69 = .ok (.iconst 0, 1) := dk_3 (dk_at dksX4_useHint_2 22 rfl rfl)
theorem dX4_useHint_70 : decode cX4_useHint 70 = .ok (.goto 7, 3) := dk_167 0 7 (dk_at dksX4_useHint_3 0 rfl rfl)
theorem dX4_useHint_73 : decode cX4_useHint 73 = .ok (.iload 6, 2) := dk_21 6 (dk_at dksX4_useHint_3 3 rfl rfl)
theorem dX4_useHint_75 : decode cX4_useHint 75 = .ok (.iconst 1, 1) := dk_4 (dk_at dksX4_useHint_3 5 rfl rfl)
theorem dX4_useHint_76 : decode cX4_useHint 76 = .ok (.iadd, 1) := dk_96 (dk_at dksX4_useHint_3 6 rfl rfl)
theorem dX4_useHint_77 : decode cX4_useHint 77 = .ok (.ireturn, 1) := dk_172 (dk_at dksX4_useHint_3 7 rfl rfl)
theorem dX4_useHint_78 : decode cX4_useHint 78 = .ok (.iload 6, 2) := dk_21 6 (dk_at dksX4_useHint_3 8 rfl rfl)
theorem dX4_useHint_80 : decode cX4_useHint 80 = .ok (.ifCond .ne 8, 3) := dk_154 0 8 (dk_at dksX4_useHint_3 10 rfl rfl)
theorem dX4_useHint_83 : decode cX4_useHint 83 = .ok (.bipush 43, 2) := dk_16 43 (dk_at dksX4_useHint_3 13 rfl rfl)
theorem dX4_useHint_85 : decode cX4_useHint 85 = .ok (.goto 7, 3) := dk_167 0 7 (dk_at dksX4_useHint_3 15 rfl rfl)
theorem dX4_useHint_88 : decode cX4_useHint 88 = .ok (.iload 6, 2) := dk_21 6 (dk_at dksX4_useHint_3 18 rfl rfl)
theorem dX4_useHint_90 : decode cX4_useHint 90 = .ok (.iconst 1, 1) := dk_4 (dk_at dksX4_useHint_3 20 rfl rfl)
theorem dX4_useHint_91 : decode cX4_useHint 91 = .ok (.isub, 1) := dk_100 (dk_at dksX4_useHint_3 21 rfl rfl)
theorem dX4_useHint_92 : decode cX4_useHint 92 = .ok (.ireturn, 1) := dk_172 (dk_at dksX4_useHint_3 22 rfl rfl)
theorem dX4_useHint_93 : decode cX4_useHint 93 = .ok (.new 13, 3) := dk_187 0 13 (dk_at dksX4_useHint_4 0 rfl rfl)
theorem dX4_useHint_96 : decode cX4_useHint 96 = .ok (.dup, 1) := dk_89 (dk_at dksX4_useHint_4 3 rfl rfl)
theorem dX4_useHint_97 : decode cX4_useHint 97 = .ok (.ldc 15, 2) := dk_18 15 (dk_at dksX4_useHint_4 4 rfl rfl)
theorem dX4_useHint_99 : decode cX4_useHint 99 = .ok (.invokespecial 17, 3) := dk_183 0 17 (dk_at dksX4_useHint_4 6 rfl rfl)
theorem dX4_useHint_102 : decode cX4_useHint 102 = .ok (.athrow, 1) := dk_191 (dk_at dksX4_useHint_4 9 rfl rfl)
abbrev cX4_decompose : ByteArray := prog_7_method_2_code
def yX4_decompose : MethodName := ⟨RX4, "decompose", "(II)J"⟩
def dkwX4_decompose_4 : List UInt8 := [126, 100, 62, 29, 133, 16, 32, 121, 28, 133, 20, 0, 22, 127, 129, 173]
abbrev dktX4_decompose_4 : List UInt8 := dkwX4_decompose_4 ++ []
def dkwX4_decompose_3 : List UInt8 := [18, 15, 183, 0, 17, 191, 26, 28, 5, 104, 27, 104, 100, 62, 29, 18, 20, 29, 100, 16, 31, 122, 18, 21]
abbrev dktX4_decompose_3 : List UInt8 := dkwX4_decompose_3 ++ dktX4_decompose_4
def dkwX4_decompose_2 : List UInt8 := [16, 24, 122, 61, 28, 16, 43, 28, 100, 16, 31, 122, 28, 126, 130, 61, 167, 0, 13, 187, 0, 13, 89]
abbrev dktX4_decompose_2 : List UInt8 := dkwX4_decompose_2 ++ dktX4_decompose_3
def dkwX4_decompose_1 : List UInt8 := [122, 61, 28, 16, 15, 126, 61, 167, 0, 46, 27, 18, 11, 160, 0, 30, 28, 17, 44, 11, 104, 18, 12, 96]
abbrev dktX4_decompose_1 : List UInt8 := dkwX4_decompose_1 ++ dktX4_decompose_2
def dkwX4_decompose_0 : List UInt8 := [26, 16, 127, 96, 16, 7, 122, 61, 27, 18, 9, 160, 0, 23, 28, 17, 4, 1, 104, 18, 10, 96, 16, 22]
abbrev dktX4_decompose_0 : List UInt8 := dkwX4_decompose_0 ++ dktX4_decompose_1
theorem dksX4_decompose_0 : cX4_decompose.data.toList.drop 0 = dktX4_decompose_0 := by decide +kernel
theorem dksX4_decompose_1 : cX4_decompose.data.toList.drop 24 = dktX4_decompose_1 := dk_seg dksX4_decompose_0 24 rfl rfl
theorem dksX4_decompose_2 : cX4_decompose.data.toList.drop 48 = dktX4_decompose_2 := dk_seg dksX4_decompose_1 24 rfl rfl
theorem dksX4_decompose_3 : cX4_decompose.data.toList.drop 71 = dktX4_decompose_3 := dk_seg dksX4_decompose_2 23 rfl rfl
theorem dksX4_decompose_4 : cX4_decompose.data.toList.drop 95 = dktX4_decompose_4 := dk_seg dksX4_decompose_3 24 rfl rfl
theorem dX4_decompose_0 : decode cX4_decompose 0 = .ok (.iload_n 0, 1) := dk_26 (dk_at dksX4_decompose_0 0 rfl rfl)
theorem dX4_decompose_1 : decode cX4_decompose 1 = .ok (.bipush 127, 2) := dk_16 127 (dk_at dksX4_decompose_0 1 rfl rfl)
theorem dX4_decompose_3 : decode cX4_decompose 3 = .ok (.iadd, 1) := dk_96 (dk_at dksX4_decompose_0 3 rfl rfl)
theorem dX4_decompose_4 : decode cX4_decompose 4 = .ok (.bipush 7, 2) := dk_16 7 (dk_at dksX4_decompose_0 4 rfl rfl)
theorem dX4_decompose_6 : decode cX4_decompose 6 = .ok (.ishr, 1) := dk_122 (dk_at dksX4_decompose_0 6 rfl rfl)
theorem dX4_decompose_7 : decode cX4_decompose 7 = .ok (.istore_n 2, 1) := dk_61 (dk_at dksX4_decompose_0 7 rfl rfl)
theorem dX4_decompose_8 : decode cX4_decompose 8 = .ok (.iload_n 1, 1) := dk_27 (dk_at dksX4_decompose_0 8 rfl rfl)
theorem dX4_decompose_9 : decode cX4_decompose 9 = .ok (.ldc 9, 2) := dk_18 9 (dk_at dksX4_decompose_0 9 rfl rfl)
theorem dX4_decompose_11 : decode cX4_decompose 11 = .ok (.if_icmp .ne 23, 3) := dk_160 0 23 (dk_at dksX4_decompose_0 11 rfl rfl)
theorem dX4_decompose_14 : decode cX4_decompose 14 = .ok (.iload_n 2, 1) := dk_28 (dk_at dksX4_decompose_0 14 rfl rfl)
theorem dX4_decompose_15 : decode cX4_decompose 15 = .ok (.sipush 1025, 3) := dk_17 4 1 (dk_at dksX4_decompose_0 15 rfl rfl)
theorem dX4_decompose_18 : decode cX4_decompose 18 = .ok (.imul, 1) := dk_104 (dk_at dksX4_decompose_0 18 rfl rfl)
theorem dX4_decompose_19 : decode cX4_decompose 19 = .ok (.ldc 10, 2) := dk_18 10 (dk_at dksX4_decompose_0 19 rfl rfl)
theorem dX4_decompose_21 : decode cX4_decompose 21 = .ok (.iadd, 1) := dk_96 (dk_at dksX4_decompose_0 21 rfl rfl)
theorem dX4_decompose_22 : decode cX4_decompose 22 = .ok (.bipush 22, 2) := dk_16 22 (dk_at dksX4_decompose_0 22 rfl rfl)
theorem dX4_decompose_24 : decode cX4_decompose 24 = .ok (.ishr, 1) := dk_122 (dk_at dksX4_decompose_1 0 rfl rfl)
theorem dX4_decompose_25 : decode cX4_decompose 25 = .ok (.istore_n 2, 1) := dk_61 (dk_at dksX4_decompose_1 1 rfl rfl)
theorem dX4_decompose_26 : decode cX4_decompose 26 = .ok (.iload_n 2, 1) := dk_28 (dk_at dksX4_decompose_1 2 rfl rfl)
theorem dX4_decompose_27 : decode cX4_decompose 27 = .ok (.bipush 15, 2) := dk_16 15 (dk_at dksX4_decompose_1 3 rfl rfl)
theorem dX4_decompose_29 : decode cX4_decompose 29 = .ok (.iand, 1) := dk_126 (dk_at dksX4_decompose_1 5 rfl rfl)
theorem dX4_decompose_30 : decode cX4_decompose 30 = .ok (.istore_n 2, 1) := dk_61 (dk_at dksX4_decompose_1 6 rfl rfl)
theorem dX4_decompose_31 : decode cX4_decompose 31 = .ok (.goto 46, 3) := dk_167 0 46 (dk_at dksX4_decompose_1 7 rfl rfl)
theorem dX4_decompose_34 : decode cX4_decompose 34 = .ok (.iload_n 1, 1) := dk_27 (dk_at dksX4_decompose_1 10 rfl rfl)
theorem dX4_decompose_35 : decode cX4_decompose 35 = .ok (.ldc 11, 2) := dk_18 11 (dk_at dksX4_decompose_1 11 rfl rfl)
theorem dX4_decompose_37 : decode cX4_decompose 37 = .ok (.if_icmp .ne 30, 3) := dk_160 0 30 (dk_at dksX4_decompose_1 13 rfl rfl)
theorem dX4_decompose_40 : decode cX4_decompose 40 = .ok (.iload_n 2, 1) := dk_28 (dk_at dksX4_decompose_1 16 rfl rfl)
theorem dX4_decompose_41 : decode cX4_decompose 41 = .ok (.sipush 11275, 3) := dk_17 44 11 (dk_at dksX4_decompose_1 17 rfl rfl)
theorem dX4_decompose_44 : decode cX4_decompose 44 = .ok (.imul, 1) := dk_104 (dk_at dksX4_decompose_1 20 rfl rfl)
theorem dX4_decompose_45 : decode cX4_decompose 45 = .ok (.ldc 12, 2) := dk_18 12 (dk_at dksX4_decompose_1 21 rfl rfl)
theorem dX4_decompose_47 : decode cX4_decompose 47 = .ok (.iadd, 1) := dk_96 (dk_at dksX4_decompose_1 23 rfl rfl)
theorem dX4_decompose_48 : decode cX4_decompose 48 = .ok (.bipush 24, 2) := dk_16 24 (dk_at dksX4_decompose_2 0 rfl rfl)
theorem dX4_decompose_50 : decode cX4_decompose 50 = .ok (.ishr, 1) := dk_122 (dk_at dksX4_decompose_2 2 rfl rfl)
theorem dX4_decompose_51 : decode cX4_decompose 51 = .ok (.istore_n 2, 1) := dk_61 (dk_at dksX4_decompose_2 3 rfl rfl)
theorem dX4_decompose_52 : decode cX4_decompose 52 = .ok (.iload_n 2, 1) := dk_28 (dk_at dksX4_decompose_2 4 rfl rfl)
theorem dX4_decompose_53 : decode cX4_decompose 53 = .ok (.bipush 43, 2) := dk_16 43 (dk_at dksX4_decompose_2 5 rfl rfl)
theorem dX4_decompose_55 : decode cX4_decompose 55 = .ok (.iload_n 2, 1) := dk_28 (dk_at dksX4_decompose_2 7 rfl rfl)
theorem dX4_decompose_56 : decode cX4_decompose 56 = .ok (.isub, 1) := dk_100 (dk_at dksX4_decompose_2 8 rfl rfl)
theorem dX4_decompose_57 : decode cX4_decompose 57 = .ok (.bipush 31, 2) := dk_16 31 (dk_at dksX4_decompose_2 9 rfl rfl)
theorem dX4_decompose_59 : decode cX4_decompose 59 = .ok (.ishr, 1) := dk_122 (dk_at dksX4_decompose_2 11 rfl rfl)
theorem dX4_decompose_60 : decode cX4_decompose 60 = .ok (.iload_n 2, 1) := dk_28 (dk_at dksX4_decompose_2 12 rfl rfl)
theorem dX4_decompose_61 : decode cX4_decompose 61 = .ok (.iand, 1) := dk_126 (dk_at dksX4_decompose_2 13 rfl rfl)
theorem dX4_decompose_62 : decode cX4_decompose 62 = .ok (.ixor, 1) := dk_130 (dk_at dksX4_decompose_2 14 rfl rfl)
theorem dX4_decompose_63 : decode cX4_decompose 63 = .ok (.istore_n 2, 1) := dk_61 (dk_at dksX4_decompose_2 15 rfl rfl)
theorem dX4_decompose_64 : decode cX4_decompose 64 = .ok (.goto 13, 3) := dk_167 0 13 (dk_at dksX4_decompose_2 16 rfl rfl)
theorem dX4_decompose_67 : decode cX4_decompose 67 = .ok (.new 13, 3) := dk_187 0 13 (dk_at dksX4_decompose_2 19 rfl rfl)
theorem dX4_decompose_70 : decode cX4_decompose 70 = .ok (.dup, 1) := dk_89 (dk_at dksX4_decompose_2 22 rfl rfl)
theorem dX4_decompose_71 : decode cX4_decompose 71 = .ok (.ldc 15, 2) := dk_18 15 (dk_at dksX4_decompose_3 0 rfl rfl)
theorem dX4_decompose_73 : decode cX4_decompose 73 = .ok (.invokespecial 17, 3) := dk_183 0 17 (dk_at dksX4_decompose_3 2 rfl rfl)
theorem dX4_decompose_76 : decode cX4_decompose 76 = .ok (.athrow, 1) := dk_191 (dk_at dksX4_decompose_3 5 rfl rfl)
theorem dX4_decompose_77 : decode cX4_decompose 77 = .ok (.iload_n 0, 1) := dk_26 (dk_at dksX4_decompose_3 6 rfl rfl)
theorem dX4_decompose_78 : decode cX4_decompose 78 = .ok (.iload_n 2, 1) := dk_28 (dk_at dksX4_decompose_3 7 rfl rfl)
theorem dX4_decompose_79 : decode cX4_decompose 79 = .ok (.iconst 2, 1) := dk_5 (dk_at dksX4_decompose_3 8 rfl rfl)
theorem dX4_decompose_80 : decode cX4_decompose 80 = .ok (.imul, 1) := dk_104 (dk_at dksX4_decompose_3 9 rfl rfl)
theorem dX4_decompose_81 : decode cX4_decompose 81 = .ok (.iload_n 1, 1) := dk_27 (dk_at dksX4_decompose_3 10 rfl rfl)
theorem dX4_decompose_82 : decode cX4_decompose 82 = .ok (.imul, 1) := dk_104 (dk_at dksX4_decompose_3 11 rfl rfl)
theorem dX4_decompose_83 : decode cX4_decompose 83 = .ok (.isub, 1) := dk_100 (dk_at dksX4_decompose_3 12 rfl rfl)
theorem dX4_decompose_84 : decode cX4_decompose 84 = .ok (.istore_n 3, 1) := dk_62 (dk_at dksX4_decompose_3 13 rfl rfl)
theorem dX4_decompose_85 : decode cX4_decompose 85 = .ok (.iload_n 3, 1) := dk_29 (dk_at dksX4_decompose_3 14 rfl rfl)
theorem dX4_decompose_86 : decode cX4_decompose 86 = .ok (.ldc 20, 2) := dk_18 20 (dk_at dksX4_decompose_3 15 rfl rfl)
theorem dX4_decompose_88 : decode cX4_decompose 88 = .ok (.iload_n 3, 1) := dk_29 (dk_at dksX4_decompose_3 17 rfl rfl)
theorem dX4_decompose_89 : decode cX4_decompose 89 = .ok (.isub, 1) := dk_100 (dk_at dksX4_decompose_3 18 rfl rfl)
theorem dX4_decompose_90 : decode cX4_decompose 90 = .ok (.bipush 31, 2) := dk_16 31 (dk_at dksX4_decompose_3 19 rfl rfl)
theorem dX4_decompose_92 : decode cX4_decompose 92 = .ok (.ishr, 1) := dk_122 (dk_at dksX4_decompose_3 21 rfl rfl)
theorem dX4_decompose_93 : decode cX4_decompose 93 = .ok (.ldc 21, 2) := dk_18 21 (dk_at dksX4_decompose_3 22 rfl rfl)
theorem dX4_decompose_95 : decode cX4_decompose 95 = .ok (.iand, 1) := dk_126 (dk_at dksX4_decompose_4 0 rfl rfl)
theorem dX4_decompose_96 : decode cX4_decompose 96 = .ok (.isub, 1) := dk_100 (dk_at dksX4_decompose_4 1 rfl rfl)
theorem dX4_decompose_97 : decode cX4_decompose 97 = .ok (.istore_n 3, 1) := dk_62 (dk_at dksX4_decompose_4 2 rfl rfl)
theorem dX4_decompose_98 : decode cX4_decompose 98 = .ok (.iload_n 3, 1) := dk_29 (dk_at dksX4_decompose_4 3 rfl rfl)
theorem dX4_decompose_99 : decode cX4_decompose 99 = .ok (.i2l, 1) := dk_133 (dk_at dksX4_decompose_4 4 rfl rfl)
theorem dX4_decompose_100 : decode cX4_decompose 100 = .ok (.bipush 32, 2) := dk_16 32 (dk_at dksX4_decompose_4 5 rfl rfl)
theorem dX4_decompose_102 : decode cX4_decompose 102 = .ok (.lshl, 1) := dk_121 (dk_at dksX4_decompose_4 7 rfl rfl)
theorem dX4_decompose_103 : decode cX4_decompose 103 = .ok (.iload_n 2, 1) := dk_28 (dk_at dksX4_decompose_4 8 rfl rfl)
theorem dX4_decompose_104 : decode cX4_decompose 104 = .ok (.i2l, 1) := dk_133 (dk_at dksX4_decompose_4 9 rfl rfl)
theorem dX4_decompose_105 : decode cX4_decompose 105 = .ok (.ldc2_w 22, 3) := dk_20 0 22 (dk_at dksX4_decompose_4 10 rfl rfl)
theorem dX4_decompose_108 : decode cX4_decompose 108 = .ok (.land, 1) := dk_127 (dk_at dksX4_decompose_4 13 rfl rfl)
theorem dX4_decompose_109 : decode cX4_decompose 109 = .ok (.lor, 1) := dk_129 (dk_at dksX4_decompose_4 14 rfl rfl)
theorem dX4_decompose_110 : decode cX4_decompose 110 = .ok (.lreturn, 1) := dk_173 (dk_at dksX4_decompose_4 15 rfl rfl)
theorem q6 : (Jvm.Cond.initialized "Rounding") ∈ lw_all := lw_g (lw_at lw_m0 5 rfl) rfl
theorem q83 : (Jvm.Cond.static ({ cls := "Rounding", name := "useHint", desc := "(III)I" } : Jvm.MethodName)) ∈ lw_all := lw_g (lw_at lw_m0 82 rfl) rfl
theorem q84 : (Jvm.Cond.code ({ cls := "Rounding", name := "useHint", desc := "(III)I" } : Jvm.MethodName) prog_7_method_3_code (7 : Nat) (Option.some Jvm.ClassFile.FieldType.int)) ∈ lw_all := lw_g (lw_at lw_m0 83 rfl) rfl
theorem q85 : (Jvm.Cond.methodLink "Rounding" (24 : Nat) ({ cls := "Rounding", name := "decompose", desc := "(II)J" } : Jvm.MethodName)) ∈ lw_all := lw_g (lw_at lw_m0 84 rfl) rfl
theorem q86 : (Jvm.Cond.static ({ cls := "Rounding", name := "decompose", desc := "(II)J" } : Jvm.MethodName)) ∈ lw_all := lw_g (lw_at lw_m0 85 rfl) rfl
theorem q87 : (Jvm.Cond.code ({ cls := "Rounding", name := "decompose", desc := "(II)J" } : Jvm.MethodName) prog_7_method_2_code (4 : Nat) (Option.some Jvm.ClassFile.FieldType.long)) ∈ lw_all := lw_g (lw_at lw_m0 86 rfl) rfl
theorem q88 : (Jvm.Cond.constant "Rounding" (9 : Nat) (261888 : Int32)) ∈ lw_all := lw_g (lw_at lw_m0 87 rfl) rfl
theorem q89 : (Jvm.Cond.constant "Rounding" (10 : Nat) (2097152 : Int32)) ∈ lw_all := lw_g (lw_at lw_m0 88 rfl) rfl
theorem q90 : (Jvm.Cond.constant "Rounding" (11 : Nat) (95232 : Int32)) ∈ lw_all := lw_g (lw_at lw_m0 89 rfl) rfl
theorem q91 : (Jvm.Cond.constant "Rounding" (12 : Nat) (8388608 : Int32)) ∈ lw_all := lw_g (lw_at lw_m0 90 rfl) rfl
theorem q92 : (Jvm.Cond.classLink "Rounding" (13 : Nat) "java/lang/RuntimeException") ∈ lw_all := lw_g (lw_at lw_m0 91 rfl) rfl
theorem q129 : (Jvm.Cond.stringRef "Rounding" (15 : Nat) "Wrong Gamma2!") ∈ lw_tbl := lw_at lw_m0 128 rfl
theorem q130 : (Jvm.Cond.methodLink "Rounding" (17 : Nat) ({ cls := "java/lang/RuntimeException", name := "<init>", desc := "(Ljava/lang/String;)V" } : Jvm.MethodName)) ∈ lw_all := lw_g (lw_at lw_m0 129 rfl) rfl
theorem q153 : (Jvm.Cond.constant "Rounding" (20 : Nat) (4190208 : Int32)) ∈ lw_all := lw_g (lw_at lw_m0 152 rfl) rfl
theorem q154 : (Jvm.Cond.constant "Rounding" (21 : Nat) (8380417 : Int32)) ∈ lw_all := lw_g (lw_at lw_m0 153 rfl) rfl
theorem q155 : (Jvm.Cond.constantLong "Rounding" (22 : Nat) (4294967295 : Int64)) ∈ lw_all := lw_g (lw_at lw_m0 154 rfl) rfl

/-! Ntt -/
set_option maxRecDepth 100000
def RX2 : String := "Ntt"
abbrev cX2_ntt : ByteArray := prog_5_method_2_code
def yX2_ntt : MethodName := ⟨RX2, "ntt", "([I)V"⟩
def dkwX2_ntt_4 : List UInt8 := [177]
abbrev dktX2_ntt_4 : List UInt8 := dkwX2_ntt_4 ++ []
def dkwX2_ntt_3 : List UInt8 := [21, 6, 96, 79, 132, 3, 1, 167, 255, 211, 29, 27, 96, 61, 167, 255, 184, 27, 4, 124, 60, 167, 255, 171]
abbrev dktX2_ntt_3 : List UInt8 := dkwX2_ntt_3 ++ dktX2_ntt_4
def dkwX2_ntt_2 : List UInt8 := [46, 133, 105, 184, 0, 15, 54, 6, 42, 29, 27, 96, 42, 29, 46, 21, 6, 100, 79, 42, 29, 42, 29, 46]
abbrev dktX2_ntt_2 : List UInt8 := dkwX2_ntt_2 ++ dktX2_ntt_3
def dkwX2_ntt_1 : List UInt8 := [132, 4, 1, 21, 4, 46, 54, 5, 28, 62, 29, 28, 27, 96, 162, 0, 44, 21, 5, 133, 42, 29, 27, 96]
abbrev dktX2_ntt_1 : List UInt8 := dkwX2_ntt_1 ++ dktX2_ntt_2
def dkwX2_ntt_0 : List UInt8 := [3, 54, 4, 17, 0, 128, 60, 27, 158, 0, 87, 3, 61, 28, 17, 1, 0, 162, 0, 71, 178, 0, 9]
abbrev dktX2_ntt_0 : List UInt8 := dkwX2_ntt_0 ++ dktX2_ntt_1
theorem dksX2_ntt_0 : cX2_ntt.data.toList.drop 0 = dktX2_ntt_0 := by decide +kernel
theorem dksX2_ntt_1 : cX2_ntt.data.toList.drop 23 = dktX2_ntt_1 := dk_seg dksX2_ntt_0 23 rfl rfl
theorem dksX2_ntt_2 : cX2_ntt.data.toList.drop 47 = dktX2_ntt_2 := dk_seg dksX2_ntt_1 24 rfl rfl
theorem dksX2_ntt_3 : cX2_ntt.data.toList.drop 71 = dktX2_ntt_3 := dk_seg dksX2_ntt_2 24 rfl rfl
theorem dksX2_ntt_4 : cX2_ntt.data.toList.drop 95 = dktX2_ntt_4 := dk_seg dksX2_ntt_3 24 rfl rfl
theorem dX2_ntt_0 : decode cX2_ntt 0 = .ok (.iconst 0, 1) := dk_3 (dk_at dksX2_ntt_0 0 rfl rfl)
theorem dX2_ntt_1 : decode cX2_ntt 1 = .ok (.istore 4, 2) := dk_54 4 (dk_at dksX2_ntt_0 1 rfl rfl)
theorem dX2_ntt_3 : decode cX2_ntt 3 = .ok (.sipush 128, 3) := dk_17 0 128 (dk_at dksX2_ntt_0 3 rfl rfl)
theorem dX2_ntt_6 : decode cX2_ntt 6 = .ok (.istore_n 1, 1) := dk_60 (dk_at dksX2_ntt_0 6 rfl rfl)
theorem dX2_ntt_7 : decode cX2_ntt 7 = .ok (.iload_n 1, 1) := dk_27 (dk_at dksX2_ntt_0 7 rfl rfl)
theorem dX2_ntt_8 : decode cX2_ntt 8 = .ok (.ifCond .le 87, 3) := dk_158 0 87 (dk_at dksX2_ntt_0 8 rfl rfl)
theorem dX2_ntt_11 : decode cX2_ntt 11 = .ok (.iconst 0, 1) := dk_3 (dk_at dksX2_ntt_0 11 rfl rfl)
theorem dX2_ntt_12 : decode cX2_ntt 12 = .ok (.istore_n 2, 1) := dk_61 (dk_at dksX2_ntt_0 12 rfl rfl)
theorem dX2_ntt_13 : decode cX2_ntt 13 = .ok (.iload_n 2, 1) := dk_28 (dk_at dksX2_ntt_0 13 rfl rfl)
theorem dX2_ntt_14 : decode cX2_ntt 14 = .ok (.sipush 256, 3) := dk_17 1 0 (dk_at dksX2_ntt_0 14 rfl rfl)
theorem dX2_ntt_17 : decode cX2_ntt 17 = .ok (.if_icmp .ge 71, 3) := dk_162 0 71 (dk_at dksX2_ntt_0 17 rfl rfl)
theorem dX2_ntt_20 : decode cX2_ntt 20 = .ok (.getstatic 9, 3) := dk_178 0 9 (dk_at dksX2_ntt_0 20 rfl rfl)
theorem dX2_ntt_23 : decode cX2_ntt 23 = .ok (.iinc 4 1, 3) := dk_132 4 1 (dk_at dksX2_ntt_1 0 rfl rfl)
theorem dX2_ntt_26 : decode cX2_ntt 26 = .ok (.iload 4, 2) := dk_21 4 (dk_at dksX2_ntt_1 3 rfl rfl)
theorem dX2_ntt_28 : decode cX2_ntt 28 = .ok (.iaload, 1) := dk_46 (dk_at dksX2_ntt_1 5 rfl rfl)
theorem dX2_ntt_29 : decode cX2_ntt 29 = .ok (.istore 5, 2) := dk_54 5 (dk_at dksX2_ntt_1 6 rfl rfl)
theorem dX2_ntt_31 : decode cX2_ntt 31 = .ok (.iload_n 2, 1) := dk_28 (dk_at dksX2_ntt_1 8 rfl rfl)
theorem dX2_ntt_32 : decode cX2_ntt 32 = .ok (.istore_n 3, 1) := dk_62 (dk_at dksX2_ntt_1 9 rfl rfl)
theorem dX2_ntt_33 : decode cX2_ntt 33 = .ok (.iload_n 3, 1) := dk_29 (dk_at dksX2_ntt_1 10 rfl rfl)
theorem dX2_ntt_34 : decode cX2_ntt 34 = .ok (.iload_n 2, 1) := dk_28 (dk_at dksX2_ntt_1 11 rfl rfl)
theorem dX2_ntt_35 : decode cX2_ntt 35 = .ok (.iload_n 1, 1) := dk_27 (dk_at dksX2_ntt_1 12 rfl rfl)
theorem dX2_ntt_36 : decode cX2_ntt 36 = .ok (.iadd, 1) := dk_96 (dk_at dksX2_ntt_1 13 rfl rfl)
theorem dX2_ntt_37 : decode cX2_ntt 37 = .ok (.if_icmp .ge 44, 3) := dk_162 0 44 (dk_at dksX2_ntt_1 14 rfl rfl)
theorem dX2_ntt_40 : decode cX2_ntt 40 = .ok (.iload 5, 2) := dk_21 5 (dk_at dksX2_ntt_1 17 rfl rfl)
theorem dX2_ntt_42 : decode cX2_ntt 42 = .ok (.i2l, 1) := dk_133 (dk_at dksX2_ntt_1 19 rfl rfl)
theorem dX2_ntt_43 : decode cX2_ntt 43 = .ok (.aload_n 0, 1) := dk_42 (dk_at dksX2_ntt_1 20 rfl rfl)
theorem dX2_ntt_44 : decode cX2_ntt 44 = .ok (.iload_n 3, 1) := dk_29 (dk_at dksX2_ntt_1 21 rfl rfl)
theorem dX2_ntt_45 : decode cX2_ntt 45 = .ok (.iload_n 1, 1) := dk_27 (dk_at dksX2_ntt_1 22 rfl rfl)
theorem dX2_ntt_46 : decode cX2_ntt 46 = .ok (.iadd, 1) := dk_96 (dk_at dksX2_ntt_1 23 rfl rfl)
theorem dX2_ntt_47 : decode cX2_ntt 47 = .ok (.iaload, 1) := dk_46 (dk_at dksX2_ntt_2 0 rfl rfl)
theorem dX2_ntt_48 : decode cX2_ntt 48 = .ok (.i2l, 1) := dk_133 (dk_at dksX2_ntt_2 1 rfl rfl)
theorem dX2_ntt_49 : decode cX2_ntt 49 = .ok (.lmul, 1) := dk_105 (dk_at dksX2_ntt_2 2 rfl rfl)
theorem dX2_ntt_50 : decode cX2_ntt 50 = .ok (.invokestatic 15, 3) := dk_184 0 15 (dk_at dksX2_ntt_2 3 rfl rfl)
theorem dX2_ntt_53 : decode cX2_ntt 53 = .ok (.istore 6, 2) := dk_54 6 (dk_at dksX2_ntt_2 6 rfl rfl)
theorem dX2_ntt_55 : decode cX2_ntt 55 = .ok (.aload_n 0, 1) := dk_42 (dk_at dksX2_ntt_2 8 rfl rfl)
theorem dX2_ntt_56 : decode cX2_ntt 56 = .ok (.iload_n 3, 1) := dk_29 (dk_at dksX2_ntt_2 9 rfl rfl)
theorem dX2_ntt_57 : decode cX2_ntt 57 = .ok (.iload_n 1, 1) := dk_27 (dk_at dksX2_ntt_2 10 rfl rfl)
theorem dX2_ntt_58 : decode cX2_ntt 58 = .ok (.iadd, 1) := dk_96 (dk_at dksX2_ntt_2 11 rfl rfl)
theorem dX2_ntt_59 : decode cX2_ntt 59 = .ok (.aload_n 0, 1) := dk_42 (dk_at dksX2_ntt_2 12 rfl rfl)
theorem dX2_ntt_60 : decode cX2_ntt 60 = .ok (.iload_n 3, 1) := dk_29 (dk_at dksX2_ntt_2 13 rfl rfl)
theorem dX2_ntt_61 : decode cX2_ntt 61 = .ok (.iaload, 1) := dk_46 (dk_at dksX2_ntt_2 14 rfl rfl)
theorem dX2_ntt_62 : decode cX2_ntt 62 = .ok (.iload 6, 2) := dk_21 6 (dk_at dksX2_ntt_2 15 rfl rfl)
theorem dX2_ntt_64 : decode cX2_ntt 64 = .ok (.isub, 1) := dk_100 (dk_at dksX2_ntt_2 17 rfl rfl)
theorem dX2_ntt_65 : decode cX2_ntt 65 = .ok (.iastore, 1) := dk_79 (dk_at dksX2_ntt_2 18 rfl rfl)
theorem dX2_ntt_66 : decode cX2_ntt 66 = .ok (.aload_n 0, 1) := dk_42 (dk_at dksX2_ntt_2 19 rfl rfl)
theorem dX2_ntt_67 : decode cX2_ntt 67 = .ok (.iload_n 3, 1) := dk_29 (dk_at dksX2_ntt_2 20 rfl rfl)
theorem dX2_ntt_68 : decode cX2_ntt 68 = .ok (.aload_n 0, 1) := dk_42 (dk_at dksX2_ntt_2 21 rfl rfl)
theorem dX2_ntt_69 : decode cX2_ntt 69 = .ok (.iload_n 3, 1) := dk_29 (dk_at dksX2_ntt_2 22 rfl rfl)
theorem dX2_ntt_70 : decode cX2_ntt 70 = .ok (.iaload, 1) := dk_46 (dk_at dksX2_ntt_2 23 rfl rfl)
theorem dX2_ntt_71 : decode cX2_ntt 71 = .ok (.iload 6, 2) := dk_21 6 (dk_at dksX2_ntt_3 0 rfl rfl)
theorem dX2_ntt_73 : decode cX2_ntt 73 = .ok (.iadd, 1) := dk_96 (dk_at dksX2_ntt_3 2 rfl rfl)
theorem dX2_ntt_74 : decode cX2_ntt 74 = .ok (.iastore, 1) := dk_79 (dk_at dksX2_ntt_3 3 rfl rfl)
theorem dX2_ntt_75 : decode cX2_ntt 75 = .ok (.iinc 3 1, 3) := dk_132 3 1 (dk_at dksX2_ntt_3 4 rfl rfl)
theorem dX2_ntt_78 : decode cX2_ntt 78 = .ok (.goto (-45), 3) := dk_167 255 211 (dk_at dksX2_ntt_3 7 rfl rfl)
theorem dX2_ntt_81 : decode cX2_ntt 81 = .ok (.iload_n 3, 1) := dk_29 (dk_at dksX2_ntt_3 10 rfl rfl)
theorem dX2_ntt_82 : decode cX2_ntt 82 = .ok (.iload_n 1, 1) := dk_27 (dk_at dksX2_ntt_3 11 rfl rfl)
theorem dX2_ntt_83 : decode cX2_ntt 83 = .ok (.iadd, 1) := dk_96 (dk_at dksX2_ntt_3 12 rfl rfl)
theorem dX2_ntt_84 : decode cX2_ntt 84 = .ok (.istore_n 2, 1) := dk_61 (dk_at dksX2_ntt_3 13 rfl rfl)
theorem dX2_ntt_85 : decode cX2_ntt 85 = .ok (.goto (-72), 3) := dk_167 255 184 (dk_at dksX2_ntt_3 14 rfl rfl)
theorem dX2_ntt_88 : decode cX2_ntt 88 = .ok (.iload_n 1, 1) := dk_27 (dk_at dksX2_ntt_3 17 rfl rfl)
theorem dX2_ntt_89 : decode cX2_ntt 89 = .ok (.iconst 1, 1) := dk_4 (dk_at dksX2_ntt_3 18 rfl rfl)
theorem dX2_ntt_90 : decode cX2_ntt 90 = .ok (.iushr, 1) := dk_124 (dk_at dksX2_ntt_3 19 rfl rfl)
theorem dX2_ntt_91 : decode cX2_ntt 91 = .ok (.istore_n 1, 1) := dk_60 (dk_at dksX2_ntt_3 20 rfl rfl)
theorem dX2_ntt_92 : decode cX2_ntt 92 = .ok (.goto (-85), 3) := dk_167 255 171 (dk_at dksX2_ntt_3 21 rfl rfl)
theorem dX2_ntt_95 : decode cX2_ntt 95 = .ok (.return_, 1) := dk_177 (dk_at dksX2_ntt_4 0 rfl rfl)
abbrev cX2_invNttToMont : ByteArray := prog_5_method_3_code
def yX2_invNttToMont : MethodName := ⟨RX2, "invNttToMont", "([I)V"⟩
def dkwX2_invNttToMont_5 : List UInt8 := [162, 0, 23, 42, 29, 20, 0, 21, 42, 29, 46, 133, 105, 184, 0, 15, 79, 132, 3, 1, 167, 255, 232, 177]
abbrev dktX2_invNttToMont_5 : List UInt8 := dkwX2_invNttToMont_5 ++ []
def dkwX2_invNttToMont_4 : List UInt8 := [167, 255, 199, 29, 28, 96, 60, 167, 255, 170, 28, 4, 120, 61, 167, 255, 154, 3, 62, 29, 17, 1, 0]
abbrev dktX2_invNttToMont_4 : List UInt8 := dkwX2_invNttToMont_4 ++ dktX2_invNttToMont_5
def dkwX2_invNttToMont_3 : List UInt8 := [100, 79, 42, 29, 28, 96, 21, 6, 133, 42, 29, 28, 96, 46, 133, 105, 184, 0, 15, 79, 132, 3, 1]
abbrev dktX2_invNttToMont_3 : List UInt8 := dkwX2_invNttToMont_3 ++ dktX2_invNttToMont_4
def dkwX2_invNttToMont_2 : List UInt8 := [54, 5, 42, 29, 21, 5, 42, 29, 28, 96, 46, 96, 79, 42, 29, 28, 96, 21, 5, 42, 29, 28, 96, 46]
abbrev dktX2_invNttToMont_2 : List UInt8 := dkwX2_invNttToMont_2 ++ dktX2_invNttToMont_3
def dkwX2_invNttToMont_1 : List UInt8 := [178, 0, 9, 132, 4, 255, 21, 4, 46, 104, 54, 6, 27, 62, 29, 27, 28, 96, 162, 0, 56, 42, 29, 46]
abbrev dktX2_invNttToMont_1 : List UInt8 := dkwX2_invNttToMont_1 ++ dktX2_invNttToMont_2
def dkwX2_invNttToMont_0 : List UInt8 := [17, 1, 0, 54, 4, 4, 61, 28, 17, 1, 0, 162, 0, 101, 3, 60, 27, 17, 1, 0, 162, 0, 85, 2]
abbrev dktX2_invNttToMont_0 : List UInt8 := dkwX2_invNttToMont_0 ++ dktX2_invNttToMont_1
theorem dksX2_invNttToMont_0 : cX2_invNttToMont.data.toList.drop 0 = dktX2_invNttToMont_0 := by decide +kernel
theorem dksX2_invNttToMont_1 : cX2_invNttToMont.data.toList.drop 24 = dktX2_invNttToMont_1 := dk_seg dksX2_invNttToMont_0 24 rfl rfl
theorem dksX2_invNttToMont_2 : cX2_invNttToMont.data.toList.drop 48 = dktX2_invNttToMont_2 := dk_seg dksX2_invNttToMont_1 24 rfl rfl
theorem dksX2_invNttToMont_3 : cX2_invNttToMont.data.toList.drop 72 = dktX2_invNttToMont_3 := dk_seg dksX2_invNttToMont_2 24 rfl rfl
theorem dksX2_invNttToMont_4 : cX2_invNttToMont.data.toList.drop 95 = dktX2_invNttToMont_4 := dk_seg dksX2_invNttToMont_3 23 rfl rfl
theorem dksX2_invNttToMont_5 : cX2_invNttToMont.data.toList.drop 118 = dktX2_invNttToMont_5 := dk_seg dksX2_invNttToMont_4 23 rfl rfl
theorem dX2_invNttToMont_0 : decode cX2_invNttToMont 0 = .ok (.sipush 256, 3) := dk_17 1 0 (dk_at dksX2_invNttToMont_0 0 rfl rfl)
theorem dX2_invNttToMont_3 : decode cX2_invNttToMont 3 = .ok (.istore 4, 2) := dk_54 4 (dk_at dksX2_invNttToMont_0 3 rfl rfl)
theorem dX2_invNttToMont_5 : decode cX2_invNttToMont 5 = .ok (.iconst 1, 1) := dk_4 (dk_at dksX2_invNttToMont_0 5 rfl rfl)
theorem dX2_invNttToMont_6 : decode cX2_invNttToMont 6 = .ok (.istore_n 2, 1) := dk_61 (dk_at dksX2_invNttToMont_0 6 rfl rfl)
theorem dX2_invNttToMont_7 : decode cX2_invNttToMont 7 = .ok (.iload_n 2, 1) := dk_28 (dk_at dksX2_invNttToMont_0 7 rfl rfl)
theorem dX2_invNttToMont_8 : decode cX2_invNttToMont 8 = .ok (.sipush 256, 3) := dk_17 1 0 (dk_at dksX2_invNttToMont_0 8 rfl rfl)
theorem dX2_invNttToMont_11 : decode cX2_invNttToMont 11 = .ok (.if_icmp .ge 101, 3) := dk_162 0 101 (dk_at dksX2_invNttToMont_0 11 rfl rfl)
theorem dX2_invNttToMont_14 : decode cX2_invNttToMont 14 = .ok (.iconst 0, 1) := dk_3 (dk_at dksX2_invNttToMont_0 14 rfl rfl)
theorem dX2_invNttToMont_15 : decode cX2_invNttToMont 15 = .ok (.istore_n 1, 1) := dk_60 (dk_at dksX2_invNttToMont_0 15 rfl rfl)
theorem dX2_invNttToMont_16 : decode cX2_invNttToMont 16 = .ok (.iload_n 1, 1) := dk_27 (dk_at dksX2_invNttToMont_0 16 rfl rfl)
theorem dX2_invNttToMont_17 : decode cX2_invNttToMont 17 = .ok (.sipush 256, 3) := dk_17 1 0 (dk_at dksX2_invNttToMont_0 17 rfl rfl)
theorem dX2_invNttToMont_20 : decode cX2_invNttToMont 20 = .ok (.if_icmp .ge 85, 3) := dk_162 0 85 (dk_at dksX2_invNttToMont_0 20 rfl rfl)
theorem dX2_invNttToMont_23 : decode cX2_invNttToMont 23 = .ok (.iconst (-1), 1) := dk_2 (dk_at dksX2_invNttToMont_0 23 rfl rfl)
theorem dX2_invNttToMont_24 : decode cX2_invNttToMont 24 = .ok (.getstatic 9, 3) := dk_178 0 9 (dk_at dksX2_invNttToMont_1 0 rfl rfl)
theorem dX2_invNttToMont_27 : decode cX2_invNttToMont 27 = .ok (.iinc 4 (-1), 3) := dk_132 4 255 (dk_at dksX2_invNttToMont_1 3 rfl rfl)
theorem dX2_invNttToMont_30 : decode cX2_invNttToMont 30 = .ok (.iload 4, 2) := dk_21 4 (dk_at dksX2_invNttToMont_1 6 rfl rfl)
theorem dX2_invNttToMont_32 : decode cX2_invNttToMont 32 = .ok (.iaload, 1) := dk_46 (dk_at dksX2_invNttToMont_1 8 rfl rfl)
theorem dX2_invNttToMont_33 : decode cX2_invNttToMont 33 = .ok (.imul, 1) := dk_104 (dk_at dksX2_invNttToMont_1 9 rfl rfl)
theorem dX2_invNttToMont_34 : decode cX2_invNttToMont 34 = .ok (.istore 6, 2) := dk_54 6 (dk_at dksX2_invNttToMont_1 10 rfl rfl)
theorem dX2_invNttToMont_36 : decode cX2_invNttToMont 36 = .ok (.iload_n 1, 1) := dk_27 (dk_at dksX2_invNttToMont_1 12 rfl rfl)
theorem dX2_invNttToMont_37 : decode cX2_invNttToMont 37 = .ok (.istore_n 3, 1) := dk_62 (dk_at dksX2_invNttToMont_1 13 rfl rfl)
theorem dX2_invNttToMont_38 : decode cX2_invNttToMont 38 = .ok (.iload_n 3, 1) := dk_29 (dk_at dksX2_invNttToMont_1 14 rfl rfl)
theorem dX2_invNttToMont_39 : decode cX2_invNttToMont 39 = .ok (.iload_n 1, 1) := dk_27 (dk_at dksX2_invNttToMont_1 15 rfl rfl)
theorem dX2_invNttToMont_40 : decode cX2_invNttToMont 40 = .ok (.iload_n 2, 1) := dk_28 (dk_at dksX2_invNttToMont_1 16 rfl rfl)
theorem dX2_invNttToMont_41 : decode cX2_invNttToMont 41 = .ok (.iadd, 1) := dk_96 (dk_at dksX2_invNttToMont_1 17 rfl rfl)
theorem dX2_invNttToMont_42 : decode cX2_invNttToMont 42 = .ok (.if_icmp .ge 56, 3) := dk_162 0 56 (dk_at dksX2_invNttToMont_1 18 rfl rfl)
theorem dX2_invNttToMont_45 : decode cX2_invNttToMont 45 = .ok (.aload_n 0, 1) := dk_42 (dk_at dksX2_invNttToMont_1 21 rfl rfl)
theorem dX2_invNttToMont_46 : decode cX2_invNttToMont 46 = .ok (.iload_n 3, 1) := dk_29 (dk_at dksX2_invNttToMont_1 22 rfl rfl)
theorem dX2_invNttToMont_47 : decode cX2_invNttToMont 47 = .ok (.iaload, 1) := dk_46 (dk_at dksX2_invNttToMont_1 23 rfl rfl)
theorem dX2_invNttToMont_48 : decode cX2_invNttToMont 48 = .ok (.istore 5, 2) := dk_54 5 (dk_at dksX2_invNttToMont_2 0 rfl rfl)
theorem dX2_invNttToMont_50 : decode cX2_invNttToMont 50 = .ok (.aload_n 0, 1) := dk_42 (dk_at dksX2_invNttToMont_2 2 rfl rfl)
theorem dX2_invNttToMont_51 : decode cX2_invNttToMont 51 = .ok (.iload_n 3, 1) := dk_29 (dk_at dksX2_invNttToMont_2 3 rfl rfl)
theorem dX2_invNttToMont_52 : decode cX2_invNttToMont 52 = .ok (.iload 5, 2) := dk_21 5 (dk_at dksX2_invNttToMont_2 4 rfl rfl)
theorem dX2_invNttToMont_54 : decode cX2_invNttToMont 54 = .ok (.aload_n 0, 1) := dk_42 (dk_at dksX2_invNttToMont_2 6 rfl rfl)
theorem dX2_invNttToMont_55 : decode cX2_invNttToMont 55 = .ok (.iload_n 3, 1) := dk_29 (dk_at dksX2_invNttToMont_2 7 rfl rfl)
theorem dX2_invNttToMont_56 : decode cX2_invNttToMont 56 = .ok (.iload_n 2, 1) := dk_28 (dk_at dksX2_invNttToMont_2 8 rfl rfl)
theorem dX2_invNttToMont_57 : decode cX2_invNttToMont 57 = .ok (.iadd, 1) := dk_96 (dk_at dksX2_invNttToMont_2 9 rfl rfl)
theorem dX2_invNttToMont_58 : decode cX2_invNttToMont 58 = .ok (.iaload, 1) := dk_46 (dk_at dksX2_invNttToMont_2 10 rfl rfl)
theorem dX2_invNttToMont_59 : decode cX2_invNttToMont 59 = .ok (.iadd, 1) := dk_96 (dk_at dksX2_invNttToMont_2 11 rfl rfl)
theorem dX2_invNttToMont_60 : decode cX2_invNttToMont 60 = .ok (.iastore, 1) := dk_79 (dk_at dksX2_invNttToMont_2 12 rfl rfl)
theorem dX2_invNttToMont_61 : decode cX2_invNttToMont 61 = .ok (.aload_n 0, 1) := dk_42 (dk_at dksX2_invNttToMont_2 13 rfl rfl)
theorem dX2_invNttToMont_62 : decode cX2_invNttToMont 62 = .ok (.iload_n 3, 1) := dk_29 (dk_at dksX2_invNttToMont_2 14 rfl rfl)
theorem dX2_invNttToMont_63 : decode cX2_invNttToMont 63 = .ok (.iload_n 2, 1) := dk_28 (dk_at dksX2_invNttToMont_2 15 rfl rfl)
theorem dX2_invNttToMont_64 : decode cX2_invNttToMont 64 = .ok (.iadd, 1) := dk_96 (dk_at dksX2_invNttToMont_2 16 rfl rfl)
theorem dX2_invNttToMont_65 : decode cX2_invNttToMont 65 = .ok (.iload 5, 2) := dk_21 5 (dk_at dksX2_invNttToMont_2 17 rfl rfl)
theorem dX2_invNttToMont_67 : decode cX2_invNttToMont 67 = .ok (.aload_n 0, 1) := dk_42 (dk_at dksX2_invNttToMont_2 19 rfl rfl)
theorem dX2_invNttToMont_68 : decode cX2_invNttToMont 68 = .ok (.iload_n 3, 1) := dk_29 (dk_at dksX2_invNttToMont_2 20 rfl rfl)
theorem dX2_invNttToMont_69 : decode cX2_invNttToMont 69 = .ok (.iload_n 2, 1) := dk_28 (dk_at dksX2_invNttToMont_2 21 rfl rfl)
theorem dX2_invNttToMont_70 : decode cX2_invNttToMont 70 = .ok (.iadd, 1) := dk_96 (dk_at dksX2_invNttToMont_2 22 rfl rfl)
theorem dX2_invNttToMont_71 : decode cX2_invNttToMont 71 = .ok (.iaload, 1) := dk_46 (dk_at dksX2_invNttToMont_2 23 rfl rfl)
theorem dX2_invNttToMont_72 : decode cX2_invNttToMont 72 = .ok (.isub, 1) := dk_100 (dk_at dksX2_invNttToMont_3 0 rfl rfl)
theorem dX2_invNttToMont_73 : decode cX2_invNttToMont 73 = .ok (.iastore, 1) := dk_79 (dk_at dksX2_invNttToMont_3 1 rfl rfl)
theorem dX2_invNttToMont_74 : decode cX2_invNttToMont 74 = .ok (.aload_n 0, 1) := dk_42 (dk_at dksX2_invNttToMont_3 2 rfl rfl)
theorem dX2_invNttToMont_75 : decode cX2_invNttToMont 75 = .ok (.iload_n 3, 1) := dk_29 (dk_at dksX2_invNttToMont_3 3 rfl rfl)
theorem dX2_invNttToMont_76 : decode cX2_invNttToMont 76 = .ok (.iload_n 2, 1) := dk_28 (dk_at dksX2_invNttToMont_3 4 rfl rfl)
theorem dX2_invNttToMont_77 : decode cX2_invNttToMont 77 = .ok (.iadd, 1) := dk_96 (dk_at dksX2_invNttToMont_3 5 rfl rfl)
theorem dX2_invNttToMont_78 : decode cX2_invNttToMont 78 = .ok (.iload 6, 2) := dk_21 6 (dk_at dksX2_invNttToMont_3 6 rfl rfl)
theorem dX2_invNttToMont_80 : decode cX2_invNttToMont 80 = .ok (.i2l, 1) := dk_133 (dk_at dksX2_invNttToMont_3 8 rfl rfl)
theorem dX2_invNttToMont_81 : decode cX2_invNttToMont 81 = .ok (.aload_n 0, 1) := dk_42 (dk_at dksX2_invNttToMont_3 9 rfl rfl)
theorem dX2_invNttToMont_82 : decode cX2_invNttToMont 82 = .ok (.iload_n 3, 1) := dk_29 (dk_at dksX2_invNttToMont_3 10 rfl rfl)
theorem dX2_invNttToMont_83 : decode cX2_invNttToMont 83 = .ok (.iload_n 2, 1) := dk_28 (dk_at dksX2_invNttToMont_3 11 rfl rfl)
theorem dX2_invNttToMont_84 : decode cX2_invNttToMont 84 = .ok (.iadd, 1) := dk_96 (dk_at dksX2_invNttToMont_3 12 rfl rfl)
theorem dX2_invNttToMont_85 : decode cX2_invNttToMont 85 = .ok (.iaload, 1) := dk_46 (dk_at dksX2_invNttToMont_3 13 rfl rfl)
theorem dX2_invNttToMont_86 : decode cX2_invNttToMont 86 = .ok (.i2l, 1) := dk_133 (dk_at dksX2_invNttToMont_3 14 rfl rfl)
theorem dX2_invNttToMont_87 : decode cX2_invNttToMont 87 = .ok (.lmul, 1) := dk_105 (dk_at dksX2_invNttToMont_3 15 rfl rfl)
theorem dX2_invNttToMont_88 : decode cX2_invNttToMont 88 = .ok (.invokestatic 15, 3) := dk_184 0 15 (dk_at dksX2_invNttToMont_3 16 rfl rfl)
theorem dX2_invNttToMont_91 : decode cX2_invNttToMont 91 = .ok (.iastore, 1) := dk_79 (dk_at dksX2_invNttToMont_3 19 rfl rfl)
theorem dX2_invNttToMont_92 : decode cX2_invNttToMont 92 = .ok (.iinc 3 1, 3) := dk_132 3 1 (dk_at dksX2_invNttToMont_3 20 rfl rfl)
theorem dX2_invNttToMont_95 : decode cX2_invNttToMont 95 = .ok (.goto (-57), 3) := dk_167 255 199 (dk_at dksX2_invNttToMont_4 0 rfl rfl)
theorem dX2_invNttToMont_98 : decode cX2_invNttToMont 98 = .ok (.iload_n 3, 1) := dk_29 (dk_at dksX2_invNttToMont_4 3 rfl rfl)
theorem dX2_invNttToMont_99 : decode cX2_invNttToMont 99 = .ok (.iload_n 2, 1) := dk_28 (dk_at dksX2_invNttToMont_4 4 rfl rfl)
theorem dX2_invNttToMont_100 : decode cX2_invNttToMont 100 = .ok (.iadd, 1) := dk_96 (dk_at dksX2_invNttToMont_4 5 rfl rfl)
theorem dX2_invNttToMont_101 : decode cX2_invNttToMont 101 = .ok (.istore_n 1, 1) := dk_60 (dk_at dksX2_invNttToMont_4 6 rfl rfl)
theorem dX2_invNttToMont_102 : decode cX2_invNttToMont 102 = .ok (.goto (-86), 3) := dk_167 255 170 (dk_at dksX2_invNttToMont_4 7 rfl rfl)
theorem dX2_invNttToMont_105 : decode cX2_invNttToMont 105 = .ok (.iload_n 2, 1) := dk_28 (dk_at dksX2_invNttToMont_4 10 rfl rfl)
theorem dX2_invNttToMont_106 : decode cX2_invNttToMont 106 = .ok (.iconst 1, 1) := dk_4 (dk_at dksX2_invNttToMont_4 11 rfl rfl)
theorem dX2_invNttToMont_107 : decode cX2_invNttToMont 107 = .ok (.ishl, 1) := dk_120 (dk_at dksX2_invNttToMont_4 12 rfl rfl)
theorem dX2_invNttToMont_108 : decode cX2_invNttToMont 108 = .ok (.istore_n 2, 1) := dk_61 (dk_at dksX2_invNttToMont_4 13 rfl rfl)
theorem dX2_invNttToMont_109 : decode cX2_invNttToMont 109 = .ok (.goto (-102), 3) := dk_167 255 154 (dk_at dksX2_invNttToMont_4 14 rfl rfl)
theorem dX2_invNttToMont_112 : decode cX2_invNttToMont 112 = .ok (.iconst 0, 1) := dk_3 (dk_at dksX2_invNttToMont_4 17 rfl rfl)
theorem dX2_invNttToMont_113 : decode cX2_invNttToMont 113 = .ok (.istore_n 3, 1) := dk_62 (dk_at dksX2_invNttToMont_4 18 rfl rfl)
theorem dX2_invNttToMont_114 : decode cX2_invNttToMont 114 = .ok (.iload_n 3, 1) := dk_29 (dk_at dksX2_invNttToMont_4 19 rfl rfl)
theorem dX2_invNttToMont_115 : decode cX2_invNttToMont 115 = .ok (.sipush 256, 3) := dk_17 1 0 (dk_at dksX2_invNttToMont_4 20 rfl rfl)
theorem dX2_invNttToMont_118 : decode cX2_invNttToMont 118 = .ok (.if_icmp .ge 23, 3) := dk_162 0 23 (dk_at dksX2_invNttToMont_5 0 rfl rfl)
theorem dX2_invNttToMont_121 : decode cX2_invNttToMont 121 = .ok (.aload_n 0, 1) := dk_42 (dk_at dksX2_invNttToMont_5 3 rfl rfl)
theorem dX2_invNttToMont_122 : decode cX2_invNttToMont 122 = .ok (.iload_n 3, 1) := dk_29 (dk_at dksX2_invNttToMont_5 4 rfl rfl)
theorem dX2_invNttToMont_123 : decode cX2_invNttToMont 123 = .ok (.ldc2_w 21, 3) := dk_20 0 21 (dk_at dksX2_invNttToMont_5 5 rfl rfl)
theorem dX2_invNttToMont_126 : decode cX2_invNttToMont 126 = .ok (.aload_n 0, 1) := dk_42 (dk_at dksX2_invNttToMont_5 8 rfl rfl)
theorem dX2_invNttToMont_127 : decode cX2_invNttToMont 127 = .ok (.iload_n 3, 1) := dk_29 (dk_at dksX2_invNttToMont_5 9 rfl rfl)
theorem dX2_invNttToMont_128 : decode cX2_invNttToMont 128 = .ok (.iaload, 1) := dk_46 (dk_at dksX2_invNttToMont_5 10 rfl rfl)
theorem dX2_invNttToMont_129 : decode cX2_invNttToMont 129 = .ok (.i2l, 1) := dk_133 (dk_at dksX2_invNttToMont_5 11 rfl rfl)
theorem dX2_invNttToMont_130 : decode cX2_invNttToMont 130 = .ok (.lmul, 1) := dk_105 (dk_at dksX2_invNttToMont_5 12 rfl rfl)
theorem dX2_invNttToMont_131 : decode cX2_invNttToMont 131 = .ok (.invokestatic 15, 3) := dk_184 0 15 (dk_at dksX2_invNttToMont_5 13 rfl rfl)
theorem dX2_invNttToMont_134 : decode cX2_invNttToMont 134 = .ok (.iastore, 1) := dk_79 (dk_at dksX2_invNttToMont_5 16 rfl rfl)
theorem dX2_invNttToMont_135 : decode cX2_invNttToMont 135 = .ok (.iinc 3 1, 3) := dk_132 3 1 (dk_at dksX2_invNttToMont_5 17 rfl rfl)
theorem dX2_invNttToMont_138 : decode cX2_invNttToMont 138 = .ok (.goto (-24), 3) := dk_167 255 232 (dk_at dksX2_invNttToMont_5 20 rfl rfl)
theorem dX2_invNttToMont_141 : decode cX2_invNttToMont 141 = .ok (.return_, 1) := dk_177 (dk_at dksX2_invNttToMont_5 23 rfl rfl)
theorem q4 : (Jvm.Cond.initialized "Ntt") ∈ lw_all := lw_g (lw_at lw_m0 3 rfl) rfl
theorem q43 : (Jvm.Cond.static ({ cls := "Ntt", name := "ntt", desc := "([I)V" } : Jvm.MethodName)) ∈ lw_all := lw_g (lw_at lw_m0 42 rfl) rfl
theorem q44 : (Jvm.Cond.code ({ cls := "Ntt", name := "ntt", desc := "([I)V" } : Jvm.MethodName) prog_5_method_2_code (7 : Nat) (Option.none : Option Jvm.ClassFile.FieldType)) ∈ lw_all := lw_g (lw_at lw_m0 43 rfl) rfl
theorem q45 : (Jvm.Cond.fieldLink "Ntt" (9 : Nat) "Ntt" "nttZetas" "[I") ∈ lw_all := lw_g (lw_at lw_m0 44 rfl) rfl
theorem q46 : (Jvm.Cond.laysStatic "Ntt" "nttZetas" "[I") ∈ lw_tbl := lw_at lw_m0 45 rfl
theorem q47 : (Jvm.Cond.methodLink "Ntt" (15 : Nat) ({ cls := "Reduce", name := "montgomeryReduce", desc := "(J)I" } : Jvm.MethodName)) ∈ lw_all := lw_g (lw_at lw_m0 46 rfl) rfl
theorem q54 : (Jvm.Cond.static ({ cls := "Ntt", name := "invNttToMont", desc := "([I)V" } : Jvm.MethodName)) ∈ lw_all := lw_g (lw_at lw_m0 53 rfl) rfl
theorem q55 : (Jvm.Cond.code ({ cls := "Ntt", name := "invNttToMont", desc := "([I)V" } : Jvm.MethodName) prog_5_method_3_code (7 : Nat) (Option.none : Option Jvm.ClassFile.FieldType)) ∈ lw_all := lw_g (lw_at lw_m0 54 rfl) rfl
theorem q56 : (Jvm.Cond.constantLong "Ntt" (21 : Nat) (41978 : Int64)) ∈ lw_all := lw_g (lw_at lw_m0 55 rfl) rfl
end
section
/-! HintRing -/
set_option maxRecDepth 100000
def RX0 : String := "HintRing"
def TX0 : u_T := fun k => match k with
  | _ => ("HintRing", "file", "[[I", false)
def tyX0 : Nat → FieldType := fun k => match k with
  | _ => .array (.array .int)
abbrev wsX00 : List Cond := u_ws RX0 TX0 1
theorem nmX0 : ∀ a, a < 1 → ∀ b, b < 1 → a ≠ b → (TX0 a).2.1 ≠ (TX0 b).2.1 := by decide +kernel
theorem tyX0_ok : ∀ k, k < 1 → parseFieldDescriptor (TX0 k).2.2.1 = some (tyX0 k) := by decide +kernel
abbrev cX0_init : ByteArray := prog_1_method_1_code
def yX0_init : MethodName := ⟨RX0, "<init>", "()V"⟩
def dkwX0_init_0 : List UInt8 := [42, 183, 0, 1, 42, 7, 17, 1, 0, 197, 0, 7, 2, 181, 0, 9, 177]
abbrev dktX0_init_0 : List UInt8 := dkwX0_init_0 ++ []
theorem dksX0_init_0 : cX0_init.data.toList.drop 0 = dktX0_init_0 := by decide +kernel
theorem dX0_init_0 : decode cX0_init 0 = .ok (.aload_n 0, 1) := dk_42 (dk_at dksX0_init_0 0 rfl rfl)
theorem dX0_init_1 : decode cX0_init 1 = .ok (.invokespecial 1, 3) := dk_183 0 1 (dk_at dksX0_init_0 1 rfl rfl)
theorem dX0_init_4 : decode cX0_init 4 = .ok (.aload_n 0, 1) := dk_42 (dk_at dksX0_init_0 4 rfl rfl)
theorem dX0_init_5 : decode cX0_init 5 = .ok (.iconst 4, 1) := dk_7 (dk_at dksX0_init_0 5 rfl rfl)
theorem dX0_init_6 : decode cX0_init 6 = .ok (.sipush 256, 3) := dk_17 1 0 (dk_at dksX0_init_0 6 rfl rfl)
theorem dX0_init_9 : decode cX0_init 9 = .ok (.multianewarray 7 2, 4) := by decide +kernel
theorem dX0_init_13 : decode cX0_init 13 = .ok (.putfield 9, 3) := dk_181 0 9 (dk_at dksX0_init_0 13 rfl rfl)
theorem dX0_init_16 : decode cX0_init 16 = .ok (.return_, 1) := dk_177 (dk_at dksX0_init_0 16 rfl rfl)
abbrev cX0_put : ByteArray := prog_1_method_4_code
def yX0_put : MethodName := ⟨RX0, "put", "(III)V"⟩
def dkwX0_put_0 : List UInt8 := [42, 180, 0, 9, 27, 6, 126, 50, 28, 17, 0, 255, 126, 29, 184, 0, 25, 79, 177]
abbrev dktX0_put_0 : List UInt8 := dkwX0_put_0 ++ []
theorem dksX0_put_0 : cX0_put.data.toList.drop 0 = dktX0_put_0 := by decide +kernel
theorem dX0_put_0 : decode cX0_put 0 = .ok (.aload_n 0, 1) := dk_42 (dk_at dksX0_put_0 0 rfl rfl)
theorem dX0_put_1 : decode cX0_put 1 = .ok (.getfield 9, 3) := dk_180 0 9 (dk_at dksX0_put_0 1 rfl rfl)
theorem dX0_put_4 : decode cX0_put 4 = .ok (.iload_n 1, 1) := dk_27 (dk_at dksX0_put_0 4 rfl rfl)
theorem dX0_put_5 : decode cX0_put 5 = .ok (.iconst 3, 1) := dk_6 (dk_at dksX0_put_0 5 rfl rfl)
theorem dX0_put_6 : decode cX0_put 6 = .ok (.iand, 1) := dk_126 (dk_at dksX0_put_0 6 rfl rfl)
theorem dX0_put_7 : decode cX0_put 7 = .ok (.aaload, 1) := dk_50 (dk_at dksX0_put_0 7 rfl rfl)
theorem dX0_put_8 : decode cX0_put 8 = .ok (.iload_n 2, 1) := dk_28 (dk_at dksX0_put_0 8 rfl rfl)
theorem dX0_put_9 : decode cX0_put 9 = .ok (.sipush 255, 3) := dk_17 0 255 (dk_at dksX0_put_0 9 rfl rfl)
theorem dX0_put_12 : decode cX0_put 12 = .ok (.iand, 1) := dk_126 (dk_at dksX0_put_0 12 rfl rfl)
theorem dX0_put_13 : decode cX0_put 13 = .ok (.iload_n 3, 1) := dk_29 (dk_at dksX0_put_0 13 rfl rfl)
theorem dX0_put_14 : decode cX0_put 14 = .ok (.invokestatic 25, 3) := dk_184 0 25 (dk_at dksX0_put_0 14 rfl rfl)
theorem dX0_put_17 : decode cX0_put 17 = .ok (.iastore, 1) := dk_79 (dk_at dksX0_put_0 17 rfl rfl)
theorem dX0_put_18 : decode cX0_put 18 = .ok (.return_, 1) := dk_177 (dk_at dksX0_put_0 18 rfl rfl)
abbrev cX0_fair : ByteArray := prog_1_method_2_code
def yX0_fair : MethodName := ⟨RX0, "fair", "(I)I"⟩
def dkwX0_fair_0 : List UInt8 := [26, 18, 14, 126, 18, 15, 112, 172]
abbrev dktX0_fair_0 : List UInt8 := dkwX0_fair_0 ++ []
theorem dksX0_fair_0 : cX0_fair.data.toList.drop 0 = dktX0_fair_0 := by decide +kernel
theorem dX0_fair_0 : decode cX0_fair 0 = .ok (.iload_n 0, 1) := dk_26 (dk_at dksX0_fair_0 0 rfl rfl)
theorem dX0_fair_1 : decode cX0_fair 1 = .ok (.ldc 14, 2) := dk_18 14 (dk_at dksX0_fair_0 1 rfl rfl)
theorem dX0_fair_3 : decode cX0_fair 3 = .ok (.iand, 1) := dk_126 (dk_at dksX0_fair_0 3 rfl rfl)
theorem dX0_fair_4 : decode cX0_fair 4 = .ok (.ldc 15, 2) := dk_18 15 (dk_at dksX0_fair_0 4 rfl rfl)
theorem dX0_fair_6 : decode cX0_fair 6 = .ok (.irem, 1) := dk_112 (dk_at dksX0_fair_0 6 rfl rfl)
theorem dX0_fair_7 : decode cX0_fair 7 = .ok (.ireturn, 1) := dk_172 (dk_at dksX0_fair_0 7 rfl rfl)
abbrev cX0_spread : ByteArray := prog_1_method_5_code
def yX0_spread : MethodName := ⟨RX0, "spread", "(III)V"⟩
def dkwX0_spread_1 : List UInt8 := [29, 104, 96, 184, 0, 25, 79, 132, 4, 1, 167, 255, 225, 177]
abbrev dktX0_spread_1 : List UInt8 := dkwX0_spread_1 ++ []
def dkwX0_spread_0 : List UInt8 := [3, 54, 4, 21, 4, 17, 1, 0, 162, 0, 29, 42, 180, 0, 9, 27, 6, 126, 50, 21, 4, 28, 21, 4]
abbrev dktX0_spread_0 : List UInt8 := dkwX0_spread_0 ++ dktX0_spread_1
theorem dksX0_spread_0 : cX0_spread.data.toList.drop 0 = dktX0_spread_0 := by decide +kernel
theorem dksX0_spread_1 : cX0_spread.data.toList.drop 24 = dktX0_spread_1 := dk_seg dksX0_spread_0 24 rfl rfl
theorem dX0_spread_0 : decode cX0_spread 0 = .ok (.iconst 0, 1) := dk_3 (dk_at dksX0_spread_0 0 rfl rfl)
theorem dX0_spread_1 : decode cX0_spread 1 = .ok (.istore 4, 2) := dk_54 4 (dk_at dksX0_spread_0 1 rfl rfl)
theorem dX0_spread_3 : decode cX0_spread 3 = .ok (.iload 4, 2) := dk_21 4 (dk_at dksX0_spread_0 3 rfl rfl)
theorem dX0_spread_5 : decode cX0_spread 5 = .ok (.sipush 256, 3) := dk_17 1 0 (dk_at dksX0_spread_0 5 rfl rfl)
theorem dX0_spread_8 : decode cX0_spread 8 = .ok (.if_icmp .ge 29, 3) := dk_162 0 29 (dk_at dksX0_spread_0 8 rfl rfl)
theorem dX0_spread_11 : decode cX0_spread 11 = .ok (.aload_n 0, 1) := dk_42 (dk_at dksX0_spread_0 11 rfl rfl)
theorem dX0_spread_12 : decode cX0_spread 12 = .ok (.getfield 9, 3) := dk_180 0 9 (dk_at dksX0_spread_0 12 rfl rfl)
theorem dX0_spread_15 : decode cX0_spread 15 = .ok (.iload_n 1, 1) := dk_27 (dk_at dksX0_spread_0 15 rfl rfl)
theorem dX0_spread_16 : decode cX0_spread 16 = .ok (.iconst 3, 1) := dk_6 (dk_at dksX0_spread_0 16 rfl rfl)
theorem dX0_spread_17 : decode cX0_spread 17 = .ok (.iand, 1) := dk_126 (dk_at dksX0_spread_0 17 rfl rfl)
theorem dX0_spread_18 : decode cX0_spread 18 = .ok (.aaload, 1) := dk_50 (dk_at dksX0_spread_0 18 rfl rfl)
theorem dX0_spread_19 : decode cX0_spread 19 = .ok (.iload 4, 2) := dk_21 4 (dk_at dksX0_spread_0 19 rfl rfl)
theorem dX0_spread_21 : decode cX0_spread 21 = .ok (.iload_n 2, 1) := dk_28 (dk_at dksX0_spread_0 21 rfl rfl)
theorem dX0_spread_22 : decode cX0_spread 22 = .ok (.iload 4, 2) := dk_21 4 (dk_at dksX0_spread_0 22 rfl rfl)
theorem dX0_spread_24 : decode cX0_spread 24 = .ok (.iload_n 3, 1) := dk_29 (dk_at dksX0_spread_1 0 rfl rfl)
theorem dX0_spread_25 : decode cX0_spread 25 = .ok (.imul, 1) := dk_104 (dk_at dksX0_spread_1 1 rfl rfl)
theorem dX0_spread_26 : decode cX0_spread 26 = .ok (.iadd, 1) := dk_96 (dk_at dksX0_spread_1 2 rfl rfl)
theorem dX0_spread_27 : decode cX0_spread 27 = .ok (.invokestatic 25, 3) := dk_184 0 25 (dk_at dksX0_spread_1 3 rfl rfl)
theorem dX0_spread_30 : decode cX0_spread 30 = .ok (.iastore, 1) := dk_79 (dk_at dksX0_spread_1 6 rfl rfl)
theorem dX0_spread_31 : decode cX0_spread 31 = .ok (.iinc 4 1, 3) := dk_132 4 1 (dk_at dksX0_spread_1 7 rfl rfl)
theorem dX0_spread_34 : decode cX0_spread 34 = .ok (.goto (-31), 3) := dk_167 255 225 (dk_at dksX0_spread_1 10 rfl rfl)
theorem dX0_spread_37 : decode cX0_spread 37 = .ok (.return_, 1) := dk_177 (dk_at dksX0_spread_1 13 rfl rfl)
abbrev cX0_multiply : ByteArray := prog_1_method_6_code
def yX0_multiply : MethodName := ⟨RX0, "multiply", "(III)V"⟩
def dkwX0_multiply_6 : List UInt8 := [46, 184, 0, 41, 79, 132, 7, 1, 167, 255, 232, 42, 180, 0, 9, 27, 6, 126, 25, 6, 83, 177]
abbrev dktX0_multiply_6 : List UInt8 := dkwX0_multiply_6 ++ []
def dkwX0_multiply_5 : List UInt8 := [25, 6, 184, 0, 38, 3, 54, 7, 21, 7, 17, 1, 0, 162, 0, 22, 25, 6, 21, 7, 25, 6, 21, 7]
abbrev dktX0_multiply_5 : List UInt8 := dkwX0_multiply_5 ++ dktX0_multiply_6
def dkwX0_multiply_4 : List UInt8 := [25, 4, 21, 7, 46, 133, 25, 5, 21, 7, 46, 133, 105, 184, 0, 34, 79, 132, 7, 1, 167, 255, 224]
abbrev dktX0_multiply_4 : List UInt8 := dkwX0_multiply_4 ++ dktX0_multiply_5
def dkwX0_multiply_3 : List UInt8 := [184, 0, 28, 25, 5, 184, 0, 28, 3, 54, 7, 21, 7, 17, 1, 0, 162, 0, 30, 25, 6, 21, 7]
abbrev dktX0_multiply_3 : List UInt8 := dkwX0_multiply_3 ++ dktX0_multiply_4
def dkwX0_multiply_2 : List UInt8 := [25, 5, 21, 7, 42, 180, 0, 9, 29, 6, 126, 50, 21, 7, 46, 79, 132, 7, 1, 167, 255, 213, 25, 4]
abbrev dktX0_multiply_2 : List UInt8 := dkwX0_multiply_2 ++ dktX0_multiply_3
def dkwX0_multiply_1 : List UInt8 := [21, 7, 17, 1, 0, 162, 0, 41, 25, 4, 21, 7, 42, 180, 0, 9, 28, 6, 126, 50, 21, 7, 46, 79]
abbrev dktX0_multiply_1 : List UInt8 := dkwX0_multiply_1 ++ dktX0_multiply_2
def dkwX0_multiply_0 : List UInt8 := [17, 1, 0, 188, 10, 58, 4, 17, 1, 0, 188, 10, 58, 5, 17, 1, 0, 188, 10, 58, 6, 3, 54, 7]
abbrev dktX0_multiply_0 : List UInt8 := dkwX0_multiply_0 ++ dktX0_multiply_1
theorem dksX0_multiply_0 : cX0_multiply.data.toList.drop 0 = dktX0_multiply_0 := by decide +kernel
theorem dksX0_multiply_1 : cX0_multiply.data.toList.drop 24 = dktX0_multiply_1 := dk_seg dksX0_multiply_0 24 rfl rfl
theorem dksX0_multiply_2 : cX0_multiply.data.toList.drop 48 = dktX0_multiply_2 := dk_seg dksX0_multiply_1 24 rfl rfl
theorem dksX0_multiply_3 : cX0_multiply.data.toList.drop 72 = dktX0_multiply_3 := dk_seg dksX0_multiply_2 24 rfl rfl
theorem dksX0_multiply_4 : cX0_multiply.data.toList.drop 95 = dktX0_multiply_4 := dk_seg dksX0_multiply_3 23 rfl rfl
theorem dksX0_multiply_5 : cX0_multiply.data.toList.drop 118 = dktX0_multiply_5 := dk_seg dksX0_multiply_4 23 rfl rfl
theorem dksX0_multiply_6 : cX0_multiply.data.toList.drop 142 = dktX0_multiply_6 := dk_seg dksX0_multiply_5 24 rfl rfl
theorem dX0_multiply_0 : decode cX0_multiply 0 = .ok (.sipush 256, 3) := dk_17 1 0 (dk_at dksX0_multiply_0 0 rfl rfl)
theorem dX0_multiply_3 : decode cX0_multiply 3 = .ok (.newarray .int, 2) := dk_188_10 (dk_at dksX0_multiply_0 3 rfl rfl)
theorem dX0_multiply_5 : decode cX0_multiply 5 = .ok (.astore 4, 2) := dk_58 4 (dk_at dksX0_multiply_0 5 rfl rfl)
theorem dX0_multiply_7 : decode cX0_multiply 7 = .ok (.sipush 256, 3) := dk_17 1 0 (dk_at dksX0_multiply_0 7 rfl rfl)
theorem dX0_multiply_10 : decode cX0_multiply 10 = .ok (.newarray .int, 2) := dk_188_10 (dk_at dksX0_multiply_0 10 rfl rfl)
theorem dX0_multiply_12 : decode cX0_multiply 12 = .ok (.astore 5, 2) := dk_58 5 (dk_at dksX0_multiply_0 12 rfl rfl)
theorem dX0_multiply_14 : decode cX0_multiply 14 = .ok (.sipush 256, 3) := dk_17 1 0 (dk_at dksX0_multiply_0 14 rfl rfl)
theorem dX0_multiply_17 : decode cX0_multiply 17 = .ok (.newarray .int, 2) := dk_188_10 (dk_at dksX0_multiply_0 17 rfl rfl)
theorem dX0_multiply_19 : decode cX0_multiply 19 = .ok (.astore 6, 2) := dk_58 6 (dk_at dksX0_multiply_0 19 rfl rfl)
theorem dX0_multiply_21 : decode cX0_multiply 21 = .ok (.iconst 0, 1) := dk_3 (dk_at dksX0_multiply_0 21 rfl rfl)
theorem dX0_multiply_22 : decode cX0_multiply 22 = .ok (.istore 7, 2) := dk_54 7 (dk_at dksX0_multiply_0 22 rfl rfl)
theorem dX0_multiply_24 : decode cX0_multiply 24 = .ok (.iload 7, 2) := dk_21 7 (dk_at dksX0_multiply_1 0 rfl rfl)
theorem dX0_multiply_26 : decode cX0_multiply 26 = .ok (.sipush 256, 3) := dk_17 1 0 (dk_at dksX0_multiply_1 2 rfl rfl)
theorem dX0_multiply_29 : decode cX0_multiply 29 = .ok (.if_icmp .ge 41, 3) := dk_162 0 41 (dk_at dksX0_multiply_1 5 rfl rfl)
theorem dX0_multiply_32 : decode cX0_multiply 32 = .ok (.aload 4, 2) := dk_25 4 (dk_at dksX0_multiply_1 8 rfl rfl)
theorem dX0_multiply_34 : decode cX0_multiply 34 = .ok (.iload 7, 2) := dk_21 7 (dk_at dksX0_multiply_1 10 rfl rfl)
theorem dX0_multiply_36 : decode cX0_multiply 36 = .ok (.aload_n 0, 1) := dk_42 (dk_at dksX0_multiply_1 12 rfl rfl)
theorem dX0_multiply_37 : decode cX0_multiply 37 = .ok (.getfield 9, 3) := dk_180 0 9 (dk_at dksX0_multiply_1 13 rfl rfl)
theorem dX0_multiply_40 : decode cX0_multiply 40 = .ok (.iload_n 2, 1) := dk_28 (dk_at dksX0_multiply_1 16 rfl rfl)
theorem dX0_multiply_41 : decode cX0_multiply 41 = .ok (.iconst 3, 1) := dk_6 (dk_at dksX0_multiply_1 17 rfl rfl)
theorem dX0_multiply_42 : decode cX0_multiply 42 = .ok (.iand, 1) := dk_126 (dk_at dksX0_multiply_1 18 rfl rfl)
theorem dX0_multiply_43 : decode cX0_multiply 43 = .ok (.aaload, 1) := dk_50 (dk_at dksX0_multiply_1 19 rfl rfl)
theorem dX0_multiply_44 : decode cX0_multiply 44 = .ok (.iload 7, 2) := dk_21 7 (dk_at dksX0_multiply_1 20 rfl rfl)
theorem dX0_multiply_46 : decode cX0_multiply 46 = .ok (.iaload, 1) := dk_46 (dk_at dksX0_multiply_1 22 rfl rfl)
theorem dX0_multiply_47 : decode cX0_multiply 47 = .ok (.iastore, 1) := dk_79 (dk_at dksX0_multiply_1 23 rfl rfl)
theorem dX0_multiply_48 : decode cX0_multiply 48 = .ok (.aload 5, 2) := dk_25 5 (dk_at dksX0_multiply_2 0 rfl rfl)
theorem dX0_multiply_50 : decode cX0_multiply 50 = .ok (.iload 7, 2) := dk_21 7 (dk_at dksX0_multiply_2 2 rfl rfl)
theorem dX0_multiply_52 : decode cX0_multiply 52 = .ok (.aload_n 0, 1) := dk_42 (dk_at dksX0_multiply_2 4 rfl rfl)
theorem dX0_multiply_53 : decode cX0_multiply 53 = .ok (.getfield 9, 3) := dk_180 0 9 (dk_at dksX0_multiply_2 5 rfl rfl)
theorem dX0_multiply_56 : decode cX0_multiply 56 = .ok (.iload_n 3, 1) := dk_29 (dk_at dksX0_multiply_2 8 rfl rfl)
theorem dX0_multiply_57 : decode cX0_multiply 57 = .ok (.iconst 3, 1) := dk_6 (dk_at dksX0_multiply_2 9 rfl rfl)
theorem dX0_multiply_58 : decode cX0_multiply 58 = .ok (.iand, 1) := dk_126 (dk_at dksX0_multiply_2 10 rfl rfl)
theorem dX0_multiply_59 : decode cX0_multiply 59 = .ok (.aaload, 1) := dk_50 (dk_at dksX0_multiply_2 11 rfl rfl)
theorem dX0_multiply_60 : decode cX0_multiply 60 = .ok (.iload 7, 2) := dk_21 7 (dk_at dksX0_multiply_2 12 rfl rfl)
theorem dX0_multiply_62 : decode cX0_multiply 62 = .ok (.iaload, 1) := dk_46 (dk_at dksX0_multiply_2 14 rfl rfl)
theorem dX0_multiply_63 : decode cX0_multiply 63 = .ok (.iastore, 1) := dk_79 (dk_at dksX0_multiply_2 15 rfl rfl)
theorem dX0_multiply_64 : decode cX0_multiply 64 = .ok (.iinc 7 1, 3) := dk_132 7 1 (dk_at dksX0_multiply_2 16 rfl rfl)
theorem dX0_multiply_67 : decode cX0_multiply 67 = .ok (.goto (-43), 3) := dk_167 255 213 (dk_at dksX0_multiply_2 19 rfl rfl)
theorem dX0_multiply_70 : decode cX0_multiply 70 = .ok (.aload 4, 2) := dk_25 4 (dk_at dksX0_multiply_2 22 rfl rfl)
theorem dX0_multiply_72 : decode cX0_multiply 72 = .ok (.invokestatic 28, 3) := dk_184 0 28 (dk_at dksX0_multiply_3 0 rfl rfl)
theorem dX0_multiply_75 : decode cX0_multiply 75 = .ok (.aload 5, 2) := dk_25 5 (dk_at dksX0_multiply_3 3 rfl rfl)
theorem dX0_multiply_77 : decode cX0_multiply 77 = .ok (.invokestatic 28, 3) := dk_184 0 28 (dk_at dksX0_multiply_3 5 rfl rfl)
theorem dX0_multiply_80 : decode cX0_multiply 80 = .ok (.iconst 0, 1) := dk_3 (dk_at dksX0_multiply_3 8 rfl rfl)
theorem dX0_multiply_81 : decode cX0_multiply 81 = .ok (.istore 7, 2) := dk_54 7 (dk_at dksX0_multiply_3 9 rfl rfl)
theorem dX0_multiply_83 : decode cX0_multiply 83 = .ok (.iload 7, 2) := dk_21 7 (dk_at dksX0_multiply_3 11 rfl rfl)
theorem dX0_multiply_85 : decode cX0_multiply 85 = .ok (.sipush 256, 3) := dk_17 1 0 (dk_at dksX0_multiply_3 13 rfl rfl)
theorem dX0_multiply_88 : decode cX0_multiply 88 = .ok (.if_icmp .ge 30, 3) := dk_162 0 30 (dk_at dksX0_multiply_3 16 rfl rfl)
theorem dX0_multiply_91 : decode cX0_multiply 91 = .ok (.aload 6, 2) := dk_25 6 (dk_at dksX0_multiply_3 19 rfl rfl)
theorem dX0_multiply_93 : decode cX0_multiply 93 = .ok (.iload 7, 2) := dk_21 7 (dk_at dksX0_multiply_3 21 rfl rfl)
theorem dX0_multiply_95 : decode cX0_multiply 95 = .ok (.aload 4, 2) := dk_25 4 (dk_at dksX0_multiply_4 0 rfl rfl)
theorem dX0_multiply_97 : decode cX0_multiply 97 = .ok (.iload 7, 2) := dk_21 7 (dk_at dksX0_multiply_4 2 rfl rfl)
theorem dX0_multiply_99 : decode cX0_multiply 99 = .ok (.iaload, 1) := dk_46 (dk_at dksX0_multiply_4 4 rfl rfl)
theorem dX0_multiply_100 : decode cX0_multiply 100 = .ok (.i2l, 1) := dk_133 (dk_at dksX0_multiply_4 5 rfl rfl)
theorem dX0_multiply_101 : decode cX0_multiply 101 = .ok (.aload 5, 2) := dk_25 5 (dk_at dksX0_multiply_4 6 rfl rfl)
theorem dX0_multiply_103 : decode cX0_multiply 103 = .ok (.iload 7, 2) := dk_21 7 (dk_at dksX0_multiply_4 8 rfl rfl)
theorem dX0_multiply_105 : decode cX0_multiply 105 = .ok (.iaload, 1) := dk_46 (dk_at dksX0_multiply_4 10 rfl rfl)
theorem dX0_multiply_106 : decode cX0_multiply 106 = .ok (.i2l, 1) := dk_133 (dk_at dksX0_multiply_4 11 rfl rfl)
theorem dX0_multiply_107 : decode cX0_multiply 107 = .ok (.lmul, 1) := dk_105 (dk_at dksX0_multiply_4 12 rfl rfl)
theorem dX0_multiply_108 : decode cX0_multiply 108 = .ok (.invokestatic 34, 3) := dk_184 0 34 (dk_at dksX0_multiply_4 13 rfl rfl)
theorem dX0_multiply_111 : decode cX0_multiply 111 = .ok (.iastore, 1) := dk_79 (dk_at dksX0_multiply_4 16 rfl rfl)
theorem dX0_multiply_112 : decode cX0_multiply 112 = .ok (.iinc 7 1, 3) := dk_132 7 1 (dk_at dksX0_multiply_4 17 rfl rfl)
theorem dX0_multiply_115 : decode cX0_multiply 115 = .ok (.goto (-32), 3) := dk_167 255 224 (dk_at dksX0_multiply_4 20 rfl rfl)
theorem dX0_multiply_118 : decode cX0_multiply 118 = .ok (.aload 6, 2) := dk_25 6 (dk_at dksX0_multiply_5 0 rfl rfl)
theorem dX0_multiply_120 : decode cX0_multiply 120 = .ok (.invokestatic 38, 3) := dk_184 0 38 (dk_at dksX0_multiply_5 2 rfl rfl)
theorem dX0_multiply_123 : decode cX0_multiply 123 = .ok (.iconst 0, 1) := dk_3 (dk_at dksX0_multiply_5 5 rfl rfl)
theorem dX0_multiply_124 : decode cX0_multiply 124 = .ok (.istore 7, 2) := dk_54 7 (dk_at dksX0_multiply_5 6 rfl rfl)
theorem dX0_multiply_126 : decode cX0_multiply 126 = .ok (.iload 7, 2) := dk_21 7 (dk_at dksX0_multiply_5 8 rfl rfl)
theorem dX0_multiply_128 : decode cX0_multiply 128 = .ok (.sipush 256, 3) := dk_17 1 0 (dk_at dksX0_multiply_5 10 rfl rfl)
theorem dX0_multiply_131 : decode cX0_multiply 131 = .ok (.if_icmp .ge 22, 3) := dk_162 0 22 (dk_at dksX0_multiply_5 13 rfl rfl)
theorem dX0_multiply_134 : decode cX0_multiply 134 = .ok (.aload 6, 2) := dk_25 6 (dk_at dksX0_multiply_5 16 rfl rfl)
theorem dX0_multiply_136 : decode cX0_multiply 136 = .ok (.iload 7, 2) := dk_21 7 (dk_at dksX0_multiply_5 18 rfl rfl)
theorem dX0_multiply_138 : decode cX0_multiply 138 = .ok (.aload 6, 2) := dk_25 6 (dk_at dksX0_multiply_5 20 rfl rfl)
theorem dX0_multiply_140 : decode cX0_multiply 140 = .ok (.iload 7, 2) := dk_21 7 (dk_at dksX0_multiply_5 22 rfl rfl)
theorem dX0_multiply_142 : decode cX0_multiply 142 = .ok (.iaload, 1) := dk_46 (dk_at dksX0_multiply_6 0 rfl rfl)
theorem dX0_multiply_143 : decode cX0_multiply 143 = .ok (.invokestatic 41, 3) := dk_184 0 41 (dk_at dksX0_multiply_6 1 rfl rfl)
theorem dX0_multiply_146 : decode cX0_multiply 146 = .ok (.iastore, 1) := dk_79 (dk_at dksX0_multiply_6 4 rfl rfl)
theorem dX0_multiply_147 : decode cX0_multiply 147 = .ok (.iinc 7 1, 3) := dk_132 7 1 (dk_at dksX0_multiply_6 5 rfl rfl)
theorem dX0_multiply_150 : decode cX0_multiply 150 = .ok (.goto (-24), 3) := dk_167 255 232 (dk_at dksX0_multiply_6 8 rfl rfl)
theorem dX0_multiply_153 : decode cX0_multiply 153 = .ok (.aload_n 0, 1) := dk_42 (dk_at dksX0_multiply_6 11 rfl rfl)
theorem dX0_multiply_154 : decode cX0_multiply 154 = .ok (.getfield 9, 3) := dk_180 0 9 (dk_at dksX0_multiply_6 12 rfl rfl)
theorem dX0_multiply_157 : decode cX0_multiply 157 = .ok (.iload_n 1, 1) := dk_27 (dk_at dksX0_multiply_6 15 rfl rfl)
theorem dX0_multiply_158 : decode cX0_multiply 158 = .ok (.iconst 3, 1) := dk_6 (dk_at dksX0_multiply_6 16 rfl rfl)
theorem dX0_multiply_159 : decode cX0_multiply 159 = .ok (.iand, 1) := dk_126 (dk_at dksX0_multiply_6 17 rfl rfl)
theorem dX0_multiply_160 : decode cX0_multiply 160 = .ok (.aload 6, 2) := dk_25 6 (dk_at dksX0_multiply_6 18 rfl rfl)
theorem dX0_multiply_162 : decode cX0_multiply 162 = .ok (.aastore, 1) := dk_83 (dk_at dksX0_multiply_6 20 rfl rfl)
theorem dX0_multiply_163 : decode cX0_multiply 163 = .ok (.return_, 1) := dk_177 (dk_at dksX0_multiply_6 21 rfl rfl)
abbrev cX0_whole : ByteArray := prog_1_method_3_code
def yX0_whole : MethodName := ⟨RX0, "whole", "(I)I"⟩
def dkwX0_whole_0 : List UInt8 := [26, 184, 0, 16, 184, 0, 22, 172]
abbrev dktX0_whole_0 : List UInt8 := dkwX0_whole_0 ++ []
theorem dksX0_whole_0 : cX0_whole.data.toList.drop 0 = dktX0_whole_0 := by decide +kernel
theorem dX0_whole_0 : decode cX0_whole 0 = .ok (.iload_n 0, 1) := dk_26 (dk_at dksX0_whole_0 0 rfl rfl)
theorem dX0_whole_1 : decode cX0_whole 1 = .ok (.invokestatic 16, 3) := dk_184 0 16 (dk_at dksX0_whole_0 1 rfl rfl)
theorem dX0_whole_4 : decode cX0_whole 4 = .ok (.invokestatic 22, 3) := dk_184 0 22 (dk_at dksX0_whole_0 4 rfl rfl)
theorem dX0_whole_7 : decode cX0_whole 7 = .ok (.ireturn, 1) := dk_172 (dk_at dksX0_whole_0 7 rfl rfl)
abbrev cX0_add : ByteArray := prog_1_method_7_code
def yX0_add : MethodName := ⟨RX0, "add", "(II)V"⟩
def dkwX0_add_2 : List UInt8 := [132, 4, 1, 167, 255, 215, 42, 180, 0, 9, 27, 6, 126, 45, 83, 177]
abbrev dktX0_add_2 : List UInt8 := dkwX0_add_2 ++ []
def dkwX0_add_1 : List UInt8 := [27, 6, 126, 50, 21, 4, 46, 42, 180, 0, 9, 28, 6, 126, 50, 21, 4, 46, 96, 184, 0, 41, 79]
abbrev dktX0_add_1 : List UInt8 := dkwX0_add_1 ++ dktX0_add_2
def dkwX0_add_0 : List UInt8 := [17, 1, 0, 188, 10, 78, 3, 54, 4, 21, 4, 17, 1, 0, 162, 0, 39, 45, 21, 4, 42, 180, 0, 9]
abbrev dktX0_add_0 : List UInt8 := dkwX0_add_0 ++ dktX0_add_1
theorem dksX0_add_0 : cX0_add.data.toList.drop 0 = dktX0_add_0 := by decide +kernel
theorem dksX0_add_1 : cX0_add.data.toList.drop 24 = dktX0_add_1 := dk_seg dksX0_add_0 24 rfl rfl
theorem dksX0_add_2 : cX0_add.data.toList.drop 47 = dktX0_add_2 := dk_seg dksX0_add_1 23 rfl rfl
theorem dX0_add_0 : decode cX0_add 0 = .ok (.sipush 256, 3) := dk_17 1 0 (dk_at dksX0_add_0 0 rfl rfl)
theorem dX0_add_3 : decode cX0_add 3 = .ok (.newarray .int, 2) := dk_188_10 (dk_at dksX0_add_0 3 rfl rfl)
theorem dX0_add_5 : decode cX0_add 5 = .ok (.astore_n 3, 1) := dk_78 (dk_at dksX0_add_0 5 rfl rfl)
theorem dX0_add_6 : decode cX0_add 6 = .ok (.iconst 0, 1) := dk_3 (dk_at dksX0_add_0 6 rfl rfl)
theorem dX0_add_7 : decode cX0_add 7 = .ok (.istore 4, 2) := dk_54 4 (dk_at dksX0_add_0 7 rfl rfl)
theorem dX0_add_9 : decode cX0_add 9 = .ok (.iload 4, 2) := dk_21 4 (dk_at dksX0_add_0 9 rfl rfl)
theorem dX0_add_11 : decode cX0_add 11 = .ok (.sipush 256, 3) := dk_17 1 0 (dk_at dksX0_add_0 11 rfl rfl)
theorem dX0_add_14 : decode cX0_add 14 = .ok (.if_icmp .ge 39, 3) := dk_162 0 39 (dk_at dksX0_add_0 14 rfl rfl)
theorem dX0_add_17 : decode cX0_add 17 = .ok (.aload_n 3, 1) := dk_45 (dk_at dksX0_add_0 17 rfl rfl)
theorem dX0_add_18 : decode cX0_add 18 = .ok (.iload 4, 2) := dk_21 4 (dk_at dksX0_add_0 18 rfl rfl)
theorem dX0_add_20 : decode cX0_add 20 = .ok (.aload_n 0, 1) := dk_42 (dk_at dksX0_add_0 20 rfl rfl)
theorem dX0_add_21 : decode cX0_add 21 = .ok (.getfield 9, 3) := dk_180 0 9 (dk_at dksX0_add_0 21 rfl rfl)
theorem dX0_add_24 : decode cX0_add 24 = .ok (.iload_n 1, 1) := dk_27 (dk_at dksX0_add_1 0 rfl rfl)
theorem dX0_add_25 : decode cX0_add 25 = .ok (.iconst 3, 1) := dk_6 (dk_at dksX0_add_1 1 rfl rfl)
theorem dX0_add_26 : decode cX0_add 26 = .ok (.iand, 1) := dk_126 (dk_at dksX0_add_1 2 rfl rfl)
theorem dX0_add_27 : decode cX0_add 27 = .ok (.aaload, 1) := dk_50 (dk_at dksX0_add_1 3 rfl rfl)
theorem dX0_add_28 : decode cX0_add 28 = .ok (.iload 4, 2) := dk_21 4 (dk_at dksX0_add_1 4 rfl rfl)
theorem dX0_add_30 : decode cX0_add 30 = .ok (.iaload, 1) := dk_46 (dk_at dksX0_add_1 6 rfl rfl)
theorem dX0_add_31 : decode cX0_add 31 = .ok (.aload_n 0, 1) := dk_42 (dk_at dksX0_add_1 7 rfl rfl)
theorem dX0_add_32 : decode cX0_add 32 = .ok (.getfield 9, 3) := dk_180 0 9 (dk_at dksX0_add_1 8 rfl rfl)
theorem dX0_add_35 : decode cX0_add 35 = .ok (.iload_n 2, 1) := dk_28 (dk_at dksX0_add_1 11 rfl rfl)
theorem dX0_add_36 : decode cX0_add 36 = .ok (.iconst 3, 1) := dk_6 (dk_at dksX0_add_1 12 rfl rfl)
theorem dX0_add_37 : decode cX0_add 37 = .ok (.iand, 1) := dk_126 (dk_at dksX0_add_1 13 rfl rfl)
theorem dX0_add_38 : decode cX0_add 38 = .ok (.aaload, 1) := dk_50 (dk_at dksX0_add_1 14 rfl rfl)
theorem dX0_add_39 : decode cX0_add 39 = .ok (.iload 4, 2) := dk_21 4 (dk_at dksX0_add_1 15 rfl rfl)
theorem dX0_add_41 : decode cX0_add 41 = .ok (.iaload, 1) := dk_46 (dk_at dksX0_add_1 17 rfl rfl)
theorem dX0_add_42 : decode cX0_add 42 = .ok (.iadd, 1) := dk_96 (dk_at dksX0_add_1 18 rfl rfl)
theorem dX0_add_43 : decode cX0_add 43 = .ok (.invokestatic 41, 3) := dk_184 0 41 (dk_at dksX0_add_1 19 rfl rfl)
theorem dX0_add_46 : decode cX0_add 46 = .ok (.iastore, 1) := dk_79 (dk_at dksX0_add_1 22 rfl rfl)
theorem dX0_add_47 : decode cX0_add 47 = .ok (.iinc 4 1, 3) := dk_132 4 1 (dk_at dksX0_add_2 0 rfl rfl)
theorem dX0_add_50 : decode cX0_add 50 = .ok (.goto (-41), 3) := dk_167 255 215 (dk_at dksX0_add_2 3 rfl rfl)
theorem dX0_add_53 : decode cX0_add 53 = .ok (.aload_n 0, 1) := dk_42 (dk_at dksX0_add_2 6 rfl rfl)
theorem dX0_add_54 : decode cX0_add 54 = .ok (.getfield 9, 3) := dk_180 0 9 (dk_at dksX0_add_2 7 rfl rfl)
theorem dX0_add_57 : decode cX0_add 57 = .ok (.iload_n 1, 1) := dk_27 (dk_at dksX0_add_2 10 rfl rfl)
theorem dX0_add_58 : decode cX0_add 58 = .ok (.iconst 3, 1) := dk_6 (dk_at dksX0_add_2 11 rfl rfl)
theorem dX0_add_59 : decode cX0_add 59 = .ok (.iand, 1) := dk_126 (dk_at dksX0_add_2 12 rfl rfl)
theorem dX0_add_60 : decode cX0_add 60 = .ok (.aload_n 3, 1) := dk_45 (dk_at dksX0_add_2 13 rfl rfl)
theorem dX0_add_61 : decode cX0_add 61 = .ok (.aastore, 1) := dk_83 (dk_at dksX0_add_2 14 rfl rfl)
theorem dX0_add_62 : decode cX0_add 62 = .ok (.return_, 1) := dk_177 (dk_at dksX0_add_2 15 rfl rfl)
abbrev cX0_coefficient : ByteArray := prog_1_method_8_code
def yX0_coefficient : MethodName := ⟨RX0, "coefficient", "(II)I"⟩
def dkwX0_coefficient_0 : List UInt8 := [42, 180, 0, 9, 27, 6, 126, 50, 28, 17, 0, 255, 126, 46, 172]
abbrev dktX0_coefficient_0 : List UInt8 := dkwX0_coefficient_0 ++ []
theorem dksX0_coefficient_0 : cX0_coefficient.data.toList.drop 0 = dktX0_coefficient_0 := by decide +kernel
theorem dX0_coefficient_0 : decode cX0_coefficient 0 = .ok (.aload_n 0, 1) := dk_42 (dk_at dksX0_coefficient_0 0 rfl rfl)
theorem dX0_coefficient_1 : decode cX0_coefficient 1 = .ok (.getfield 9, 3) := dk_180 0 9 (dk_at dksX0_coefficient_0 1 rfl rfl)
theorem dX0_coefficient_4 : decode cX0_coefficient 4 = .ok (.iload_n 1, 1) := dk_27 (dk_at dksX0_coefficient_0 4 rfl rfl)
theorem dX0_coefficient_5 : decode cX0_coefficient 5 = .ok (.iconst 3, 1) := dk_6 (dk_at dksX0_coefficient_0 5 rfl rfl)
theorem dX0_coefficient_6 : decode cX0_coefficient 6 = .ok (.iand, 1) := dk_126 (dk_at dksX0_coefficient_0 6 rfl rfl)
theorem dX0_coefficient_7 : decode cX0_coefficient 7 = .ok (.aaload, 1) := dk_50 (dk_at dksX0_coefficient_0 7 rfl rfl)
theorem dX0_coefficient_8 : decode cX0_coefficient 8 = .ok (.iload_n 2, 1) := dk_28 (dk_at dksX0_coefficient_0 8 rfl rfl)
theorem dX0_coefficient_9 : decode cX0_coefficient 9 = .ok (.sipush 255, 3) := dk_17 0 255 (dk_at dksX0_coefficient_0 9 rfl rfl)
theorem dX0_coefficient_12 : decode cX0_coefficient 12 = .ok (.iand, 1) := dk_126 (dk_at dksX0_coefficient_0 12 rfl rfl)
theorem dX0_coefficient_13 : decode cX0_coefficient 13 = .ok (.iaload, 1) := dk_46 (dk_at dksX0_coefficient_0 13 rfl rfl)
theorem dX0_coefficient_14 : decode cX0_coefficient 14 = .ok (.ireturn, 1) := dk_172 (dk_at dksX0_coefficient_0 14 rfl rfl)
abbrev cX0_hinted : ByteArray := prog_1_method_9_code
def yX0_hinted : MethodName := ⟨RX0, "hinted", "(III)I"⟩
def dkwX0_hinted_0 : List UInt8 := [27, 184, 0, 25, 28, 4, 126, 29, 4, 126, 154, 0, 8, 18, 44, 167, 0, 5, 18, 45, 184, 0, 46, 172]
abbrev dktX0_hinted_0 : List UInt8 := dkwX0_hinted_0 ++ []
theorem dksX0_hinted_0 : cX0_hinted.data.toList.drop 0 = dktX0_hinted_0 := by decide +kernel
theorem dX0_hinted_0 : decode cX0_hinted 0 = .ok (.iload_n 1, 1) := dk_27 (dk_at dksX0_hinted_0 0 rfl rfl)
theorem dX0_hinted_1 : decode cX0_hinted 1 = .ok (.invokestatic 25, 3) := dk_184 0 25 (dk_at dksX0_hinted_0 1 rfl rfl)
theorem dX0_hinted_4 : decode cX0_hinted 4 = .ok (.iload_n 2, 1) := dk_28 (dk_at dksX0_hinted_0 4 rfl rfl)
theorem dX0_hinted_5 : decode cX0_hinted 5 = .ok (.iconst 1, 1) := dk_4 (dk_at dksX0_hinted_0 5 rfl rfl)
theorem dX0_hinted_6 : decode cX0_hinted 6 = .ok (.iand, 1) := dk_126 (dk_at dksX0_hinted_0 6 rfl rfl)
theorem dX0_hinted_7 : decode cX0_hinted 7 = .ok (.iload_n 3, 1) := dk_29 (dk_at dksX0_hinted_0 7 rfl rfl)
theorem dX0_hinted_8 : decode cX0_hinted 8 = .ok (.iconst 1, 1) := dk_4 (dk_at dksX0_hinted_0 8 rfl rfl)
theorem dX0_hinted_9 : decode cX0_hinted 9 = .ok (.iand, 1) := dk_126 (dk_at dksX0_hinted_0 9 rfl rfl)
theorem dX0_hinted_10 : decode cX0_hinted 10 = .ok (.ifCond .ne 8, 3) := dk_154 0 8 (dk_at dksX0_hinted_0 10 rfl rfl)
theorem dX0_hinted_13 : decode cX0_hinted 13 = .ok (.ldc 44, 2) := dk_18 44 (dk_at dksX0_hinted_0 13 rfl rfl)
theorem dX0_hinted_15 : decode cX0_hinted 15 = .ok (.goto 5, 3) := dk_167 0 5 (dk_at dksX0_hinted_0 15 rfl rfl)
theorem dX0_hinted_18 : decode cX0_hinted 18 = .ok (.ldc 45, 2) := dk_18 45 (dk_at dksX0_hinted_0 18 rfl rfl)
theorem dX0_hinted_20 : decode cX0_hinted 20 = .ok (.invokestatic 46, 3) := dk_184 0 46 (dk_at dksX0_hinted_0 20 rfl rfl)
theorem dX0_hinted_23 : decode cX0_hinted 23 = .ok (.ireturn, 1) := dk_172 (dk_at dksX0_hinted_0 23 rfl rfl)
abbrev cX0_montgomery : ByteArray := prog_1_method_10_code
def yX0_montgomery : MethodName := ⟨RX0, "montgomery", "(II)I"⟩
def dkwX0_montgomery_0 : List UInt8 := [27, 184, 0, 25, 133, 28, 133, 105, 184, 0, 34, 184, 0, 41, 172]
abbrev dktX0_montgomery_0 : List UInt8 := dkwX0_montgomery_0 ++ []
theorem dksX0_montgomery_0 : cX0_montgomery.data.toList.drop 0 = dktX0_montgomery_0 := by decide +kernel
theorem dX0_montgomery_0 : decode cX0_montgomery 0 = .ok (.iload_n 1, 1) := dk_27 (dk_at dksX0_montgomery_0 0 rfl rfl)
theorem dX0_montgomery_1 : decode cX0_montgomery 1 = .ok (.invokestatic 25, 3) := dk_184 0 25 (dk_at dksX0_montgomery_0 1 rfl rfl)
theorem dX0_montgomery_4 : decode cX0_montgomery 4 = .ok (.i2l, 1) := dk_133 (dk_at dksX0_montgomery_0 4 rfl rfl)
theorem dX0_montgomery_5 : decode cX0_montgomery 5 = .ok (.iload_n 2, 1) := dk_28 (dk_at dksX0_montgomery_0 5 rfl rfl)
theorem dX0_montgomery_6 : decode cX0_montgomery 6 = .ok (.i2l, 1) := dk_133 (dk_at dksX0_montgomery_0 6 rfl rfl)
theorem dX0_montgomery_7 : decode cX0_montgomery 7 = .ok (.lmul, 1) := dk_105 (dk_at dksX0_montgomery_0 7 rfl rfl)
theorem dX0_montgomery_8 : decode cX0_montgomery 8 = .ok (.invokestatic 34, 3) := dk_184 0 34 (dk_at dksX0_montgomery_0 8 rfl rfl)
theorem dX0_montgomery_11 : decode cX0_montgomery 11 = .ok (.invokestatic 41, 3) := dk_184 0 41 (dk_at dksX0_montgomery_0 11 rfl rfl)
theorem dX0_montgomery_14 : decode cX0_montgomery 14 = .ok (.ireturn, 1) := dk_172 (dk_at dksX0_montgomery_0 14 rfl rfl)
abbrev cX0_brought : ByteArray := prog_1_method_11_code
def yX0_brought : MethodName := ⟨RX0, "brought", "(I)I"⟩
def dkwX0_brought_0 : List UInt8 := [27, 18, 52, 164, 0, 7, 2, 167, 0, 7, 27, 184, 0, 41, 172]
abbrev dktX0_brought_0 : List UInt8 := dkwX0_brought_0 ++ []
theorem dksX0_brought_0 : cX0_brought.data.toList.drop 0 = dktX0_brought_0 := by decide +kernel
theorem dX0_brought_0 : decode cX0_brought 0 = .ok (.iload_n 1, 1) := dk_27 (dk_at dksX0_brought_0 0 rfl rfl)
theorem dX0_brought_1 : decode cX0_brought 1 = .ok (.ldc 52, 2) := dk_18 52 (dk_at dksX0_brought_0 1 rfl rfl)
theorem dX0_brought_3 : decode cX0_brought 3 = .ok (.if_icmp .le 7, 3) := dk_164 0 7 (dk_at dksX0_brought_0 3 rfl rfl)
theorem dX0_brought_6 : decode cX0_brought 6 = .ok (.iconst (-1), 1) := dk_2 (dk_at dksX0_brought_0 6 rfl rfl)
theorem dX0_brought_7 : decode cX0_brought 7 = .ok (.goto 7, 3) := dk_167 0 7 (dk_at dksX0_brought_0 7 rfl rfl)
theorem dX0_brought_10 : decode cX0_brought 10 = .ok (.iload_n 1, 1) := dk_27 (dk_at dksX0_brought_0 10 rfl rfl)
theorem dX0_brought_11 : decode cX0_brought 11 = .ok (.invokestatic 41, 3) := dk_184 0 41 (dk_at dksX0_brought_0 11 rfl rfl)
theorem dX0_brought_14 : decode cX0_brought 14 = .ok (.ireturn, 1) := dk_172 (dk_at dksX0_brought_0 14 rfl rfl)
theorem q2 : (Jvm.Cond.initialized "HintRing") ∈ lw_all := lw_g (lw_at lw_m0 1 rfl) rfl
theorem q11 : (Jvm.Cond.instantiable "HintRing" (1 : Nat)) ∈ lw_all := lw_g (lw_at lw_m0 10 rfl) rfl
theorem q13 : (Jvm.Cond.instanceMethod ({ cls := "HintRing", name := "<init>", desc := "()V" } : Jvm.MethodName)) ∈ lw_all := lw_g (lw_at lw_m0 12 rfl) rfl
theorem q14 : (Jvm.Cond.code ({ cls := "HintRing", name := "<init>", desc := "()V" } : Jvm.MethodName) prog_1_method_1_code (1 : Nat) (Option.none : Option Jvm.ClassFile.FieldType)) ∈ lw_all := lw_g (lw_at lw_m0 13 rfl) rfl
theorem q15 : (Jvm.Cond.methodLink "HintRing" (1 : Nat) ({ cls := "java/lang/Object", name := "<init>", desc := "()V" } : Jvm.MethodName)) ∈ lw_all := lw_g (lw_at lw_m0 14 rfl) rfl
theorem q18 : (Jvm.Cond.classLink "HintRing" (7 : Nat) "[[I") ∈ lw_all := lw_g (lw_at lw_m0 17 rfl) rfl
theorem q20 : (Jvm.Cond.fieldLink "HintRing" (9 : Nat) "HintRing" "file" "[[I") ∈ lw_all := lw_g (lw_at lw_m0 19 rfl) rfl
theorem q21 : (Jvm.Cond.lays "HintRing" "HintRing" "file" "[[I") ∈ lw_all := lw_g (lw_at lw_m0 20 rfl) rfl
theorem q22 : (Jvm.Cond.soleField "HintRing" "file") ∈ lw_all := lw_g (lw_at lw_m0 21 rfl) rfl
theorem q23 : (Jvm.Cond.superclass "HintRing" "java/lang/Object") ∈ lw_all := lw_g (lw_at lw_m0 22 rfl) rfl
theorem q26 : (Jvm.Cond.instanceMethod ({ cls := "HintRing", name := "put", desc := "(III)V" } : Jvm.MethodName)) ∈ lw_all := lw_g (lw_at lw_m0 25 rfl) rfl
theorem q27 : (Jvm.Cond.selects "HintRing" ({ cls := "HintRing", name := "put", desc := "(III)V" } : Jvm.MethodName) ({ cls := "HintRing", name := "put", desc := "(III)V" } : Jvm.MethodName)) ∈ lw_all := lw_g (lw_at lw_m0 26 rfl) rfl
theorem q28 : (Jvm.Cond.code ({ cls := "HintRing", name := "put", desc := "(III)V" } : Jvm.MethodName) prog_1_method_4_code (4 : Nat) (Option.none : Option Jvm.ClassFile.FieldType)) ∈ lw_all := lw_g (lw_at lw_m0 27 rfl) rfl
theorem q29 : (Jvm.Cond.methodLink "HintRing" (25 : Nat) ({ cls := "HintRing", name := "fair", desc := "(I)I" } : Jvm.MethodName)) ∈ lw_all := lw_g (lw_at lw_m0 28 rfl) rfl
theorem q30 : (Jvm.Cond.static ({ cls := "HintRing", name := "fair", desc := "(I)I" } : Jvm.MethodName)) ∈ lw_all := lw_g (lw_at lw_m0 29 rfl) rfl
theorem q31 : (Jvm.Cond.code ({ cls := "HintRing", name := "fair", desc := "(I)I" } : Jvm.MethodName) prog_1_method_2_code (1 : Nat) (Option.some Jvm.ClassFile.FieldType.int)) ∈ lw_all := lw_g (lw_at lw_m0 30 rfl) rfl
theorem q32 : (Jvm.Cond.constant "HintRing" (14 : Nat) (2147483647 : Int32)) ∈ lw_all := lw_g (lw_at lw_m0 31 rfl) rfl
theorem q33 : (Jvm.Cond.constant "HintRing" (15 : Nat) (8380417 : Int32)) ∈ lw_all := lw_g (lw_at lw_m0 32 rfl) rfl
theorem q35 : (Jvm.Cond.instanceMethod ({ cls := "HintRing", name := "spread", desc := "(III)V" } : Jvm.MethodName)) ∈ lw_all := lw_g (lw_at lw_m0 34 rfl) rfl
theorem q36 : (Jvm.Cond.selects "HintRing" ({ cls := "HintRing", name := "spread", desc := "(III)V" } : Jvm.MethodName) ({ cls := "HintRing", name := "spread", desc := "(III)V" } : Jvm.MethodName)) ∈ lw_all := lw_g (lw_at lw_m0 35 rfl) rfl
theorem q37 : (Jvm.Cond.code ({ cls := "HintRing", name := "spread", desc := "(III)V" } : Jvm.MethodName) prog_1_method_5_code (5 : Nat) (Option.none : Option Jvm.ClassFile.FieldType)) ∈ lw_all := lw_g (lw_at lw_m0 36 rfl) rfl
theorem q39 : (Jvm.Cond.instanceMethod ({ cls := "HintRing", name := "multiply", desc := "(III)V" } : Jvm.MethodName)) ∈ lw_all := lw_g (lw_at lw_m0 38 rfl) rfl
theorem q40 : (Jvm.Cond.selects "HintRing" ({ cls := "HintRing", name := "multiply", desc := "(III)V" } : Jvm.MethodName) ({ cls := "HintRing", name := "multiply", desc := "(III)V" } : Jvm.MethodName)) ∈ lw_all := lw_g (lw_at lw_m0 39 rfl) rfl
theorem q41 : (Jvm.Cond.code ({ cls := "HintRing", name := "multiply", desc := "(III)V" } : Jvm.MethodName) prog_1_method_6_code (8 : Nat) (Option.none : Option Jvm.ClassFile.FieldType)) ∈ lw_all := lw_g (lw_at lw_m0 40 rfl) rfl
theorem q42 : (Jvm.Cond.methodLink "HintRing" (28 : Nat) ({ cls := "Ntt", name := "ntt", desc := "([I)V" } : Jvm.MethodName)) ∈ lw_all := lw_g (lw_at lw_m0 41 rfl) rfl
theorem q52 : (Jvm.Cond.methodLink "HintRing" (34 : Nat) ({ cls := "Reduce", name := "montgomeryReduce", desc := "(J)I" } : Jvm.MethodName)) ∈ lw_all := lw_g (lw_at lw_m0 51 rfl) rfl
theorem q53 : (Jvm.Cond.methodLink "HintRing" (38 : Nat) ({ cls := "Ntt", name := "invNttToMont", desc := "([I)V" } : Jvm.MethodName)) ∈ lw_all := lw_g (lw_at lw_m0 52 rfl) rfl
theorem q57 : (Jvm.Cond.methodLink "HintRing" (41 : Nat) ({ cls := "HintRing", name := "whole", desc := "(I)I" } : Jvm.MethodName)) ∈ lw_all := lw_g (lw_at lw_m0 56 rfl) rfl
theorem q58 : (Jvm.Cond.static ({ cls := "HintRing", name := "whole", desc := "(I)I" } : Jvm.MethodName)) ∈ lw_all := lw_g (lw_at lw_m0 57 rfl) rfl
theorem q59 : (Jvm.Cond.code ({ cls := "HintRing", name := "whole", desc := "(I)I" } : Jvm.MethodName) prog_1_method_3_code (1 : Nat) (Option.some Jvm.ClassFile.FieldType.int)) ∈ lw_all := lw_g (lw_at lw_m0 58 rfl) rfl
theorem q60 : (Jvm.Cond.methodLink "HintRing" (16 : Nat) ({ cls := "Reduce", name := "reduce32", desc := "(I)I" } : Jvm.MethodName)) ∈ lw_all := lw_g (lw_at lw_m0 59 rfl) rfl
theorem q65 : (Jvm.Cond.methodLink "HintRing" (22 : Nat) ({ cls := "Reduce", name := "conditionalAddQ", desc := "(I)I" } : Jvm.MethodName)) ∈ lw_all := lw_g (lw_at lw_m0 64 rfl) rfl
theorem q69 : (Jvm.Cond.instanceMethod ({ cls := "HintRing", name := "add", desc := "(II)V" } : Jvm.MethodName)) ∈ lw_all := lw_g (lw_at lw_m0 68 rfl) rfl
theorem q70 : (Jvm.Cond.selects "HintRing" ({ cls := "HintRing", name := "add", desc := "(II)V" } : Jvm.MethodName) ({ cls := "HintRing", name := "add", desc := "(II)V" } : Jvm.MethodName)) ∈ lw_all := lw_g (lw_at lw_m0 69 rfl) rfl
theorem q71 : (Jvm.Cond.code ({ cls := "HintRing", name := "add", desc := "(II)V" } : Jvm.MethodName) prog_1_method_7_code (5 : Nat) (Option.none : Option Jvm.ClassFile.FieldType)) ∈ lw_all := lw_g (lw_at lw_m0 70 rfl) rfl
theorem q73 : (Jvm.Cond.instanceMethod ({ cls := "HintRing", name := "coefficient", desc := "(II)I" } : Jvm.MethodName)) ∈ lw_all := lw_g (lw_at lw_m0 72 rfl) rfl
theorem q74 : (Jvm.Cond.selects "HintRing" ({ cls := "HintRing", name := "coefficient", desc := "(II)I" } : Jvm.MethodName) ({ cls := "HintRing", name := "coefficient", desc := "(II)I" } : Jvm.MethodName)) ∈ lw_all := lw_g (lw_at lw_m0 73 rfl) rfl
theorem q75 : (Jvm.Cond.code ({ cls := "HintRing", name := "coefficient", desc := "(II)I" } : Jvm.MethodName) prog_1_method_8_code (3 : Nat) (Option.some Jvm.ClassFile.FieldType.int)) ∈ lw_all := lw_g (lw_at lw_m0 74 rfl) rfl
theorem q77 : (Jvm.Cond.instanceMethod ({ cls := "HintRing", name := "hinted", desc := "(III)I" } : Jvm.MethodName)) ∈ lw_all := lw_g (lw_at lw_m0 76 rfl) rfl
theorem q78 : (Jvm.Cond.selects "HintRing" ({ cls := "HintRing", name := "hinted", desc := "(III)I" } : Jvm.MethodName) ({ cls := "HintRing", name := "hinted", desc := "(III)I" } : Jvm.MethodName)) ∈ lw_all := lw_g (lw_at lw_m0 77 rfl) rfl
theorem q79 : (Jvm.Cond.code ({ cls := "HintRing", name := "hinted", desc := "(III)I" } : Jvm.MethodName) prog_1_method_9_code (4 : Nat) (Option.some Jvm.ClassFile.FieldType.int)) ∈ lw_all := lw_g (lw_at lw_m0 78 rfl) rfl
theorem q80 : (Jvm.Cond.constant "HintRing" (44 : Nat) (95232 : Int32)) ∈ lw_all := lw_g (lw_at lw_m0 79 rfl) rfl
theorem q81 : (Jvm.Cond.constant "HintRing" (45 : Nat) (261888 : Int32)) ∈ lw_all := lw_g (lw_at lw_m0 80 rfl) rfl
theorem q82 : (Jvm.Cond.methodLink "HintRing" (46 : Nat) ({ cls := "Rounding", name := "useHint", desc := "(III)I" } : Jvm.MethodName)) ∈ lw_all := lw_g (lw_at lw_m0 81 rfl) rfl
theorem q157 : (Jvm.Cond.instanceMethod ({ cls := "HintRing", name := "montgomery", desc := "(II)I" } : Jvm.MethodName)) ∈ lw_all := lw_g (lw_at lw_m0 156 rfl) rfl
theorem q158 : (Jvm.Cond.selects "HintRing" ({ cls := "HintRing", name := "montgomery", desc := "(II)I" } : Jvm.MethodName) ({ cls := "HintRing", name := "montgomery", desc := "(II)I" } : Jvm.MethodName)) ∈ lw_all := lw_g (lw_at lw_m0 157 rfl) rfl
theorem q159 : (Jvm.Cond.code ({ cls := "HintRing", name := "montgomery", desc := "(II)I" } : Jvm.MethodName) prog_1_method_10_code (3 : Nat) (Option.some Jvm.ClassFile.FieldType.int)) ∈ lw_all := lw_g (lw_at lw_m0 158 rfl) rfl
theorem q161 : (Jvm.Cond.instanceMethod ({ cls := "HintRing", name := "brought", desc := "(I)I" } : Jvm.MethodName)) ∈ lw_all := lw_g (lw_at lw_m0 160 rfl) rfl
theorem q162 : (Jvm.Cond.selects "HintRing" ({ cls := "HintRing", name := "brought", desc := "(I)I" } : Jvm.MethodName) ({ cls := "HintRing", name := "brought", desc := "(I)I" } : Jvm.MethodName)) ∈ lw_all := lw_g (lw_at lw_m0 161 rfl) rfl
theorem q163 : (Jvm.Cond.code ({ cls := "HintRing", name := "brought", desc := "(I)I" } : Jvm.MethodName) prog_1_method_11_code (2 : Nat) (Option.some Jvm.ClassFile.FieldType.int)) ∈ lw_all := lw_g (lw_at lw_m0 162 rfl) rfl
theorem q164 : (Jvm.Cond.constant "HintRing" (52 : Nat) (2143289343 : Int32)) ∈ lw_all := lw_g (lw_at lw_m0 163 rfl) rfl
theorem in_X0 : ∀ w ∈ wsX00, w ∈ lw_all := lw_in wsX00 [21] (by decide +kernel) (by decide +kernel)
end
section
/-! HintRingModel -/
set_option maxRecDepth 100000
def RX1 : String := "HintRingModel"
def TX1 : u_T := fun k => match k with
  | _ => ("HintRingModel", "file", "[[I", false)
def tyX1 : Nat → FieldType := fun k => match k with
  | _ => .array (.array .int)
abbrev wsX10 : List Cond := u_ws RX1 TX1 1
theorem nmX1 : ∀ a, a < 1 → ∀ b, b < 1 → a ≠ b → (TX1 a).2.1 ≠ (TX1 b).2.1 := by decide +kernel
theorem tyX1_ok : ∀ k, k < 1 → parseFieldDescriptor (TX1 k).2.2.1 = some (tyX1 k) := by decide +kernel
abbrev cX1_init : ByteArray := prog_3_method_1_code
def yX1_init : MethodName := ⟨RX1, "<init>", "()V"⟩
def dkwX1_init_0 : List UInt8 := [42, 183, 0, 1, 42, 7, 17, 1, 0, 197, 0, 7, 2, 181, 0, 9, 177]
abbrev dktX1_init_0 : List UInt8 := dkwX1_init_0 ++ []
theorem dksX1_init_0 : cX1_init.data.toList.drop 0 = dktX1_init_0 := by decide +kernel
theorem dX1_init_0 : decode cX1_init 0 = .ok (.aload_n 0, 1) := dk_42 (dk_at dksX1_init_0 0 rfl rfl)
theorem dX1_init_1 : decode cX1_init 1 = .ok (.invokespecial 1, 3) := dk_183 0 1 (dk_at dksX1_init_0 1 rfl rfl)
theorem dX1_init_4 : decode cX1_init 4 = .ok (.aload_n 0, 1) := dk_42 (dk_at dksX1_init_0 4 rfl rfl)
theorem dX1_init_5 : decode cX1_init 5 = .ok (.iconst 4, 1) := dk_7 (dk_at dksX1_init_0 5 rfl rfl)
theorem dX1_init_6 : decode cX1_init 6 = .ok (.sipush 256, 3) := dk_17 1 0 (dk_at dksX1_init_0 6 rfl rfl)
theorem dX1_init_9 : decode cX1_init 9 = .ok (.multianewarray 7 2, 4) := by decide +kernel
theorem dX1_init_13 : decode cX1_init 13 = .ok (.putfield 9, 3) := dk_181 0 9 (dk_at dksX1_init_0 13 rfl rfl)
theorem dX1_init_16 : decode cX1_init 16 = .ok (.return_, 1) := dk_177 (dk_at dksX1_init_0 16 rfl rfl)
abbrev cX1_put : ByteArray := prog_3_method_2_code
def yX1_put : MethodName := ⟨RX1, "put", "(III)V"⟩
def dkwX1_put_0 : List UInt8 := [42, 180, 0, 9, 27, 6, 126, 50, 28, 17, 0, 255, 126, 29, 18, 14, 126, 18, 15, 112, 79, 177]
abbrev dktX1_put_0 : List UInt8 := dkwX1_put_0 ++ []
theorem dksX1_put_0 : cX1_put.data.toList.drop 0 = dktX1_put_0 := by decide +kernel
theorem dX1_put_0 : decode cX1_put 0 = .ok (.aload_n 0, 1) := dk_42 (dk_at dksX1_put_0 0 rfl rfl)
theorem dX1_put_1 : decode cX1_put 1 = .ok (.getfield 9, 3) := dk_180 0 9 (dk_at dksX1_put_0 1 rfl rfl)
theorem dX1_put_4 : decode cX1_put 4 = .ok (.iload_n 1, 1) := dk_27 (dk_at dksX1_put_0 4 rfl rfl)
theorem dX1_put_5 : decode cX1_put 5 = .ok (.iconst 3, 1) := dk_6 (dk_at dksX1_put_0 5 rfl rfl)
theorem dX1_put_6 : decode cX1_put 6 = .ok (.iand, 1) := dk_126 (dk_at dksX1_put_0 6 rfl rfl)
theorem dX1_put_7 : decode cX1_put 7 = .ok (.aaload, 1) := dk_50 (dk_at dksX1_put_0 7 rfl rfl)
theorem dX1_put_8 : decode cX1_put 8 = .ok (.iload_n 2, 1) := dk_28 (dk_at dksX1_put_0 8 rfl rfl)
theorem dX1_put_9 : decode cX1_put 9 = .ok (.sipush 255, 3) := dk_17 0 255 (dk_at dksX1_put_0 9 rfl rfl)
theorem dX1_put_12 : decode cX1_put 12 = .ok (.iand, 1) := dk_126 (dk_at dksX1_put_0 12 rfl rfl)
theorem dX1_put_13 : decode cX1_put 13 = .ok (.iload_n 3, 1) := dk_29 (dk_at dksX1_put_0 13 rfl rfl)
theorem dX1_put_14 : decode cX1_put 14 = .ok (.ldc 14, 2) := dk_18 14 (dk_at dksX1_put_0 14 rfl rfl)
theorem dX1_put_16 : decode cX1_put 16 = .ok (.iand, 1) := dk_126 (dk_at dksX1_put_0 16 rfl rfl)
theorem dX1_put_17 : decode cX1_put 17 = .ok (.ldc 15, 2) := dk_18 15 (dk_at dksX1_put_0 17 rfl rfl)
theorem dX1_put_19 : decode cX1_put 19 = .ok (.irem, 1) := dk_112 (dk_at dksX1_put_0 19 rfl rfl)
theorem dX1_put_20 : decode cX1_put 20 = .ok (.iastore, 1) := dk_79 (dk_at dksX1_put_0 20 rfl rfl)
theorem dX1_put_21 : decode cX1_put 21 = .ok (.return_, 1) := dk_177 (dk_at dksX1_put_0 21 rfl rfl)
abbrev cX1_spread : ByteArray := prog_3_method_3_code
def yX1_spread : MethodName := ⟨RX1, "spread", "(III)V"⟩
def dkwX1_spread_1 : List UInt8 := [29, 104, 96, 18, 14, 126, 18, 15, 112, 79, 132, 4, 1, 167, 255, 222, 177]
abbrev dktX1_spread_1 : List UInt8 := dkwX1_spread_1 ++ []
def dkwX1_spread_0 : List UInt8 := [3, 54, 4, 21, 4, 17, 1, 0, 162, 0, 32, 42, 180, 0, 9, 27, 6, 126, 50, 21, 4, 28, 21, 4]
abbrev dktX1_spread_0 : List UInt8 := dkwX1_spread_0 ++ dktX1_spread_1
theorem dksX1_spread_0 : cX1_spread.data.toList.drop 0 = dktX1_spread_0 := by decide +kernel
theorem dksX1_spread_1 : cX1_spread.data.toList.drop 24 = dktX1_spread_1 := dk_seg dksX1_spread_0 24 rfl rfl
theorem dX1_spread_0 : decode cX1_spread 0 = .ok (.iconst 0, 1) := dk_3 (dk_at dksX1_spread_0 0 rfl rfl)
theorem dX1_spread_1 : decode cX1_spread 1 = .ok (.istore 4, 2) := dk_54 4 (dk_at dksX1_spread_0 1 rfl rfl)
theorem dX1_spread_3 : decode cX1_spread 3 = .ok (.iload 4, 2) := dk_21 4 (dk_at dksX1_spread_0 3 rfl rfl)
theorem dX1_spread_5 : decode cX1_spread 5 = .ok (.sipush 256, 3) := dk_17 1 0 (dk_at dksX1_spread_0 5 rfl rfl)
theorem dX1_spread_8 : decode cX1_spread 8 = .ok (.if_icmp .ge 32, 3) := dk_162 0 32 (dk_at dksX1_spread_0 8 rfl rfl)
theorem dX1_spread_11 : decode cX1_spread 11 = .ok (.aload_n 0, 1) := dk_42 (dk_at dksX1_spread_0 11 rfl rfl)
theorem dX1_spread_12 : decode cX1_spread 12 = .ok (.getfield 9, 3) := dk_180 0 9 (dk_at dksX1_spread_0 12 rfl rfl)
theorem dX1_spread_15 : decode cX1_spread 15 = .ok (.iload_n 1, 1) := dk_27 (dk_at dksX1_spread_0 15 rfl rfl)
theorem dX1_spread_16 : decode cX1_spread 16 = .ok (.iconst 3, 1) := dk_6 (dk_at dksX1_spread_0 16 rfl rfl)
theorem dX1_spread_17 : decode cX1_spread 17 = .ok (.iand, 1) := dk_126 (dk_at dksX1_spread_0 17 rfl rfl)
theorem dX1_spread_18 : decode cX1_spread 18 = .ok (.aaload, 1) := dk_50 (dk_at dksX1_spread_0 18 rfl rfl)
theorem dX1_spread_19 : decode cX1_spread 19 = .ok (.iload 4, 2) := dk_21 4 (dk_at dksX1_spread_0 19 rfl rfl)
theorem dX1_spread_21 : decode cX1_spread 21 = .ok (.iload_n 2, 1) := dk_28 (dk_at dksX1_spread_0 21 rfl rfl)
theorem dX1_spread_22 : decode cX1_spread 22 = .ok (.iload 4, 2) := dk_21 4 (dk_at dksX1_spread_0 22 rfl rfl)
theorem dX1_spread_24 : decode cX1_spread 24 = .ok (.iload_n 3, 1) := dk_29 (dk_at dksX1_spread_1 0 rfl rfl)
theorem dX1_spread_25 : decode cX1_spread 25 = .ok (.imul, 1) := dk_104 (dk_at dksX1_spread_1 1 rfl rfl)
theorem dX1_spread_26 : decode cX1_spread 26 = .ok (.iadd, 1) := dk_96 (dk_at dksX1_spread_1 2 rfl rfl)
theorem dX1_spread_27 : decode cX1_spread 27 = .ok (.ldc 14, 2) := dk_18 14 (dk_at dksX1_spread_1 3 rfl rfl)
theorem dX1_spread_29 : decode cX1_spread 29 = .ok (.iand, 1) := dk_126 (dk_at dksX1_spread_1 5 rfl rfl)
theorem dX1_spread_30 : decode cX1_spread 30 = .ok (.ldc 15, 2) := dk_18 15 (dk_at dksX1_spread_1 6 rfl rfl)
theorem dX1_spread_32 : decode cX1_spread 32 = .ok (.irem, 1) := dk_112 (dk_at dksX1_spread_1 8 rfl rfl)
theorem dX1_spread_33 : decode cX1_spread 33 = .ok (.iastore, 1) := dk_79 (dk_at dksX1_spread_1 9 rfl rfl)
theorem dX1_spread_34 : decode cX1_spread 34 = .ok (.iinc 4 1, 3) := dk_132 4 1 (dk_at dksX1_spread_1 10 rfl rfl)
theorem dX1_spread_37 : decode cX1_spread 37 = .ok (.goto (-34), 3) := dk_167 255 222 (dk_at dksX1_spread_1 13 rfl rfl)
theorem dX1_spread_40 : decode cX1_spread 40 = .ok (.return_, 1) := dk_177 (dk_at dksX1_spread_1 16 rfl rfl)
abbrev cX1_multiply : ByteArray := prog_3_method_4_code
def yX1_multiply : MethodName := ⟨RX1, "multiply", "(III)V"⟩
def dkwX1_multiply_6 : List UInt8 := [167, 255, 127, 42, 180, 0, 9, 27, 6, 126, 25, 4, 83, 177]
abbrev dktX1_multiply_6 : List UInt8 := dkwX1_multiply_6 ++ []
def dkwX1_multiply_5 : List UInt8 := [17, 1, 0, 100, 46, 18, 15, 96, 21, 7, 100, 18, 15, 112, 79, 132, 6, 1, 167, 255, 144, 132, 5, 1]
abbrev dktX1_multiply_5 : List UInt8 := dkwX1_multiply_5 ++ dktX1_multiply_6
def dkwX1_multiply_4 : List UInt8 := [79, 167, 0, 36, 25, 4, 21, 5, 21, 6, 96, 17, 1, 0, 100, 25, 4, 21, 5, 21, 6, 96]
abbrev dktX1_multiply_4 : List UInt8 := dkwX1_multiply_4 ++ dktX1_multiply_5
def dkwX1_multiply_3 : List UInt8 := [162, 0, 28, 25, 4, 21, 5, 21, 6, 96, 25, 4, 21, 5, 21, 6, 96, 46, 21, 7, 96, 18, 15, 112]
abbrev dktX1_multiply_3 : List UInt8 := dkwX1_multiply_3 ++ dktX1_multiply_4
def dkwX1_multiply_2 : List UInt8 := [126, 50, 21, 6, 46, 133, 105, 20, 0, 16, 113, 136, 54, 7, 21, 5, 21, 6, 96, 17, 1, 0]
abbrev dktX1_multiply_2 : List UInt8 := dkwX1_multiply_2 ++ dktX1_multiply_3
def dkwX1_multiply_1 : List UInt8 := [17, 1, 0, 162, 0, 110, 42, 180, 0, 9, 28, 6, 126, 50, 21, 5, 46, 133, 42, 180, 0, 9, 29, 6]
abbrev dktX1_multiply_1 : List UInt8 := dkwX1_multiply_1 ++ dktX1_multiply_2
def dkwX1_multiply_0 : List UInt8 := [17, 1, 0, 188, 10, 58, 4, 3, 54, 5, 21, 5, 17, 1, 0, 162, 0, 127, 3, 54, 6, 21, 6]
abbrev dktX1_multiply_0 : List UInt8 := dkwX1_multiply_0 ++ dktX1_multiply_1
theorem dksX1_multiply_0 : cX1_multiply.data.toList.drop 0 = dktX1_multiply_0 := by decide +kernel
theorem dksX1_multiply_1 : cX1_multiply.data.toList.drop 23 = dktX1_multiply_1 := dk_seg dksX1_multiply_0 23 rfl rfl
theorem dksX1_multiply_2 : cX1_multiply.data.toList.drop 47 = dktX1_multiply_2 := dk_seg dksX1_multiply_1 24 rfl rfl
theorem dksX1_multiply_3 : cX1_multiply.data.toList.drop 69 = dktX1_multiply_3 := dk_seg dksX1_multiply_2 22 rfl rfl
theorem dksX1_multiply_4 : cX1_multiply.data.toList.drop 93 = dktX1_multiply_4 := dk_seg dksX1_multiply_3 24 rfl rfl
theorem dksX1_multiply_5 : cX1_multiply.data.toList.drop 115 = dktX1_multiply_5 := dk_seg dksX1_multiply_4 22 rfl rfl
theorem dksX1_multiply_6 : cX1_multiply.data.toList.drop 139 = dktX1_multiply_6 := dk_seg dksX1_multiply_5 24 rfl rfl
theorem dX1_multiply_0 : decode cX1_multiply 0 = .ok (.sipush 256, 3) := dk_17 1 0 (dk_at dksX1_multiply_0 0 rfl rfl)
theorem dX1_multiply_3 : decode cX1_multiply 3 = .ok (.newarray .int, 2) := dk_188_10 (dk_at dksX1_multiply_0 3 rfl rfl)
theorem dX1_multiply_5 : decode cX1_multiply 5 = .ok (.astore 4, 2) := dk_58 4 (dk_at dksX1_multiply_0 5 rfl rfl)
theorem dX1_multiply_7 : decode cX1_multiply 7 = .ok (.iconst 0, 1) := dk_3 (dk_at dksX1_multiply_0 7 rfl rfl)
theorem dX1_multiply_8 : decode cX1_multiply 8 = .ok (.istore 5, 2) := dk_54 5 (dk_at dksX1_multiply_0 8 rfl rfl)
theorem dX1_multiply_10 : decode cX1_multiply 10 = .ok (.iload 5, 2) := dk_21 5 (dk_at dksX1_multiply_0 10 rfl rfl)
theorem dX1_multiply_12 : decode cX1_multiply 12 = .ok (.sipush 256, 3) := dk_17 1 0 (dk_at dksX1_multiply_0 12 rfl rfl)
theorem dX1_multiply_15 : decode cX1_multiply 15 = .ok (.if_icmp .ge 127, 3) := dk_162 0 127 (dk_at dksX1_multiply_0 15 rfl rfl)
theorem dX1_multiply_18 : decode cX1_multiply 18 = .ok (.iconst 0, 1) := dk_3 (dk_at dksX1_multiply_0 18 rfl rfl)
theorem dX1_multiply_19 : decode cX1_multiply 19 = .ok (.istore 6, 2) := dk_54 6 (dk_at dksX1_multiply_0 19 rfl rfl)
theorem dX1_multiply_21 : decode cX1_multiply 21 = .ok (.iload 6, 2) := dk_21 6 (dk_at dksX1_multiply_0 21 rfl rfl)
theorem dX1_multiply_23 : decode cX1_multiply 23 = .ok (.sipush 256, 3) := dk_17 1 0 (dk_at dksX1_multiply_1 0 rfl rfl)
theorem dX1_multiply_26 : decode cX1_multiply 26 = .ok (.if_icmp .ge 110, 3) := dk_162 0 110 (dk_at dksX1_multiply_1 3 rfl rfl)
theorem dX1_multiply_29 : decode cX1_multiply 29 = .ok (.aload_n 0, 1) := dk_42 (dk_at dksX1_multiply_1 6 rfl rfl)
theorem dX1_multiply_30 : decode cX1_multiply 30 = .ok (.getfield 9, 3) := dk_180 0 9 (dk_at dksX1_multiply_1 7 rfl rfl)
theorem dX1_multiply_33 : decode cX1_multiply 33 = .ok (.iload_n 2, 1) := dk_28 (dk_at dksX1_multiply_1 10 rfl rfl)
theorem dX1_multiply_34 : decode cX1_multiply 34 = .ok (.iconst 3, 1) := dk_6 (dk_at dksX1_multiply_1 11 rfl rfl)
theorem dX1_multiply_35 : decode cX1_multiply 35 = .ok (.iand, 1) := dk_126 (dk_at dksX1_multiply_1 12 rfl rfl)
theorem dX1_multiply_36 : decode cX1_multiply 36 = .ok (.aaload, 1) := dk_50 (dk_at dksX1_multiply_1 13 rfl rfl)
theorem dX1_multiply_37 : decode cX1_multiply 37 = .ok (.iload 5, 2) := dk_21 5 (dk_at dksX1_multiply_1 14 rfl rfl)
theorem dX1_multiply_39 : decode cX1_multiply 39 = .ok (.iaload, 1) := dk_46 (dk_at dksX1_multiply_1 16 rfl rfl)
theorem dX1_multiply_40 : decode cX1_multiply 40 = .ok (.i2l, 1) := dk_133 (dk_at dksX1_multiply_1 17 rfl rfl)
theorem dX1_multiply_41 : decode cX1_multiply 41 = .ok (.aload_n 0, 1) := dk_42 (dk_at dksX1_multiply_1 18 rfl rfl)
theorem dX1_multiply_42 : decode cX1_multiply 42 = .ok (.getfield 9, 3) := dk_180 0 9 (dk_at dksX1_multiply_1 19 rfl rfl)
theorem dX1_multiply_45 : decode cX1_multiply 45 = .ok (.iload_n 3, 1) := dk_29 (dk_at dksX1_multiply_1 22 rfl rfl)
theorem dX1_multiply_46 : decode cX1_multiply 46 = .ok (.iconst 3, 1) := dk_6 (dk_at dksX1_multiply_1 23 rfl rfl)
theorem dX1_multiply_47 : decode cX1_multiply 47 = .ok (.iand, 1) := dk_126 (dk_at dksX1_multiply_2 0 rfl rfl)
theorem dX1_multiply_48 : decode cX1_multiply 48 = .ok (.aaload, 1) := dk_50 (dk_at dksX1_multiply_2 1 rfl rfl)
theorem dX1_multiply_49 : decode cX1_multiply 49 = .ok (.iload 6, 2) := dk_21 6 (dk_at dksX1_multiply_2 2 rfl rfl)
theorem dX1_multiply_51 : decode cX1_multiply 51 = .ok (.iaload, 1) := dk_46 (dk_at dksX1_multiply_2 4 rfl rfl)
theorem dX1_multiply_52 : decode cX1_multiply 52 = .ok (.i2l, 1) := dk_133 (dk_at dksX1_multiply_2 5 rfl rfl)
theorem dX1_multiply_53 : decode cX1_multiply 53 = .ok (.lmul, 1) := dk_105 (dk_at dksX1_multiply_2 6 rfl rfl)
theorem dX1_multiply_54 : decode cX1_multiply 54 = .ok (.ldc2_w 16, 3) := dk_20 0 16 (dk_at dksX1_multiply_2 7 rfl rfl)
theorem dX1_multiply_57 : decode cX1_multiply 57 = .ok (.lrem, 1) := dk_113 (dk_at dksX1_multiply_2 10 rfl rfl)
theorem dX1_multiply_58 : decode cX1_multiply 58 = .ok (.l2i, 1) := dk_136 (dk_at dksX1_multiply_2 11 rfl rfl)
theorem dX1_multiply_59 : decode cX1_multiply 59 = .ok (.istore 7, 2) := dk_54 7 (dk_at dksX1_multiply_2 12 rfl rfl)
theorem dX1_multiply_61 : decode cX1_multiply 61 = .ok (.iload 5, 2) := dk_21 5 (dk_at dksX1_multiply_2 14 rfl rfl)
theorem dX1_multiply_63 : decode cX1_multiply 63 = .ok (.iload 6, 2) := dk_21 6 (dk_at dksX1_multiply_2 16 rfl rfl)
theorem dX1_multiply_65 : decode cX1_multiply 65 = .ok (.iadd, 1) := dk_96 (dk_at dksX1_multiply_2 18 rfl rfl)
theorem dX1_multiply_66 : decode cX1_multiply 66 = .ok (.sipush 256, 3) := dk_17 1 0 (dk_at dksX1_multiply_2 19 rfl rfl)
theorem dX1_multiply_69 : decode cX1_multiply 69 = .ok (.if_icmp .ge 28, 3) := dk_162 0 28 (dk_at dksX1_multiply_3 0 rfl rfl)
theorem dX1_multiply_72 : decode cX1_multiply 72 = .ok (.aload 4, 2) := dk_25 4 (dk_at dksX1_multiply_3 3 rfl rfl)
theorem dX1_multiply_74 : decode cX1_multiply 74 = .ok (.iload 5, 2) := dk_21 5 (dk_at dksX1_multiply_3 5 rfl rfl)
theorem dX1_multiply_76 : decode cX1_multiply 76 = .ok (.iload 6, 2) := dk_21 6 (dk_at dksX1_multiply_3 7 rfl rfl)
theorem dX1_multiply_78 : decode cX1_multiply 78 = .ok (.iadd, 1) := dk_96 (dk_at dksX1_multiply_3 9 rfl rfl)
theorem dX1_multiply_79 : decode cX1_multiply 79 = .ok (.aload 4, 2) := dk_25 4 (dk_at dksX1_multiply_3 10 rfl rfl)
theorem dX1_multiply_81 : decode cX1_multiply 81 = .ok (.iload 5, 2) := dk_21 5 (dk_at dksX1_multiply_3 12 rfl rfl)
theorem dX1_multiply_83 : decode cX1_multiply 83 = .ok (.iload 6, 2) := dk_21 6 (dk_at dksX1_multiply_3 14 rfl rfl)
theorem dX1_multiply_85 : decode cX1_multiply 85 = .ok (.iadd, 1) := dk_96 (dk_at dksX1_multiply_3 16 rfl rfl)
theorem dX1_multiply_86 : decode cX1_multiply 86 = .ok (.iaload, 1) := dk_46 (dk_at dksX1_multiply_3 17 rfl rfl)
theorem dX1_multiply_87 : decode cX1_multiply 87 = .ok (.iload 7, 2) := dk_21 7 (dk_at dksX1_multiply_3 18 rfl rfl)
theorem dX1_multiply_89 : decode cX1_multiply 89 = .ok (.iadd, 1) := dk_96 (dk_at dksX1_multiply_3 20 rfl rfl)
theorem dX1_multiply_90 : decode cX1_multiply 90 = .ok (.ldc 15, 2) := dk_18 15 (dk_at dksX1_multiply_3 21 rfl rfl)
theorem dX1_multiply_92 : decode cX1_multiply 92 = .ok (.irem, 1) := dk_112 (dk_at dksX1_multiply_3 23 rfl rfl)
theorem dX1_multiply_93 : decode cX1_multiply 93 = .ok (.iastore, 1) := dk_79 (dk_at dksX1_multiply_4 0 rfl rfl)
theorem dX1_multiply_94 : decode cX1_multiply 94 = .ok (.goto 36, 3) := dk_167 0 36 (dk_at dksX1_multiply_4 1 rfl rfl)
theorem dX1_multiply_97 : decode cX1_multiply 97 = .ok (.aload 4, 2) := dk_25 4 (dk_at dksX1_multiply_4 4 rfl rfl)
theorem dX1_multiply_99 : decode cX1_multiply 99 = .ok (.iload 5, 2) := dk_21 5 (dk_at dksX1_multiply_4 6 rfl rfl)
theorem dX1_multiply_101 : decode cX1_multiply 101 = .ok (.iload 6, 2) := dk_21 6 (dk_at dksX1_multiply_4 8 rfl rfl)
theorem dX1_multiply_103 : decode cX1_multiply 103 = .ok (.iadd, 1) := dk_96 (dk_at dksX1_multiply_4 10 rfl rfl)
theorem dX1_multiply_104 : decode cX1_multiply 104 = .ok (.sipush 256, 3) := dk_17 1 0 (dk_at dksX1_multiply_4 11 rfl rfl)
theorem dX1_multiply_107 : decode cX1_multiply 107 = .ok (.isub, 1) := dk_100 (dk_at dksX1_multiply_4 14 rfl rfl)
theorem dX1_multiply_108 : decode cX1_multiply 108 = .ok (.aload 4, 2) := dk_25 4 (dk_at dksX1_multiply_4 15 rfl rfl)
theorem dX1_multiply_110 : decode cX1_multiply 110 = .ok (.iload 5, 2) := dk_21 5 (dk_at dksX1_multiply_4 17 rfl rfl)
theorem dX1_multiply_112 : decode cX1_multiply 112 = .ok (.iload 6, 2) := dk_21 6 (dk_at dksX1_multiply_4 19 rfl rfl)
theorem dX1_multiply_114 : decode cX1_multiply 114 = .ok (.iadd, 1) := dk_96 (dk_at dksX1_multiply_4 21 rfl rfl)
theorem dX1_multiply_115 : decode cX1_multiply 115 = .ok (.sipush 256, 3) := dk_17 1 0 (dk_at dksX1_multiply_5 0 rfl rfl)
theorem dX1_multiply_118 : decode cX1_multiply 118 = .ok (.isub, 1) := dk_100 (dk_at dksX1_multiply_5 3 rfl rfl)
theorem dX1_multiply_119 : decode cX1_multiply 119 = .ok (.iaload, 1) := dk_46 (dk_at dksX1_multiply_5 4 rfl rfl)
theorem dX1_multiply_120 : decode cX1_multiply 120 = .ok (.ldc 15, 2) := dk_18 15 (dk_at dksX1_multiply_5 5 rfl rfl)
theorem dX1_multiply_122 : decode cX1_multiply 122 = .ok (.iadd, 1) := dk_96 (dk_at dksX1_multiply_5 7 rfl rfl)
theorem dX1_multiply_123 : decode cX1_multiply 123 = .ok (.iload 7, 2) := dk_21 7 (dk_at dksX1_multiply_5 8 rfl rfl)
theorem dX1_multiply_125 : decode cX1_multiply 125 = .ok (.isub, 1) := dk_100 (dk_at dksX1_multiply_5 10 rfl rfl)
theorem dX1_multiply_126 : decode cX1_multiply 126 = .ok (.ldc 15, 2) := dk_18 15 (dk_at dksX1_multiply_5 11 rfl rfl)
theorem dX1_multiply_128 : decode cX1_multiply 128 = .ok (.irem, 1) := dk_112 (dk_at dksX1_multiply_5 13 rfl rfl)
theorem dX1_multiply_129 : decode cX1_multiply 129 = .ok (.iastore, 1) := dk_79 (dk_at dksX1_multiply_5 14 rfl rfl)
theorem dX1_multiply_130 : decode cX1_multiply 130 = .ok (.iinc 6 1, 3) := dk_132 6 1 (dk_at dksX1_multiply_5 15 rfl rfl)
theorem dX1_multiply_133 : decode cX1_multiply 133 = .ok (.goto (-112), 3) := dk_167 255 144 (dk_at dksX1_multiply_5 18 rfl rfl)
theorem dX1_multiply_136 : decode cX1_multiply 136 = .ok (.iinc 5 1, 3) := dk_132 5 1 (dk_at dksX1_multiply_5 21 rfl rfl)
theorem dX1_multiply_139 : decode cX1_multiply 139 = .ok (.goto (-129), 3) := dk_167 255 127 (dk_at dksX1_multiply_6 0 rfl rfl)
theorem dX1_multiply_142 : decode cX1_multiply 142 = .ok (.aload_n 0, 1) := dk_42 (dk_at dksX1_multiply_6 3 rfl rfl)
theorem dX1_multiply_143 : decode cX1_multiply 143 = .ok (.getfield 9, 3) := dk_180 0 9 (dk_at dksX1_multiply_6 4 rfl rfl)
theorem dX1_multiply_146 : decode cX1_multiply 146 = .ok (.iload_n 1, 1) := dk_27 (dk_at dksX1_multiply_6 7 rfl rfl)
theorem dX1_multiply_147 : decode cX1_multiply 147 = .ok (.iconst 3, 1) := dk_6 (dk_at dksX1_multiply_6 8 rfl rfl)
theorem dX1_multiply_148 : decode cX1_multiply 148 = .ok (.iand, 1) := dk_126 (dk_at dksX1_multiply_6 9 rfl rfl)
theorem dX1_multiply_149 : decode cX1_multiply 149 = .ok (.aload 4, 2) := dk_25 4 (dk_at dksX1_multiply_6 10 rfl rfl)
theorem dX1_multiply_151 : decode cX1_multiply 151 = .ok (.aastore, 1) := dk_83 (dk_at dksX1_multiply_6 12 rfl rfl)
theorem dX1_multiply_152 : decode cX1_multiply 152 = .ok (.return_, 1) := dk_177 (dk_at dksX1_multiply_6 13 rfl rfl)
abbrev cX1_add : ByteArray := prog_3_method_5_code
def yX1_add : MethodName := ⟨RX1, "add", "(II)V"⟩
def dkwX1_add_2 : List UInt8 := [132, 4, 1, 167, 255, 215, 42, 180, 0, 9, 27, 6, 126, 45, 83, 177]
abbrev dktX1_add_2 : List UInt8 := dkwX1_add_2 ++ []
def dkwX1_add_1 : List UInt8 := [27, 6, 126, 50, 21, 4, 46, 42, 180, 0, 9, 28, 6, 126, 50, 21, 4, 46, 96, 18, 15, 112, 79]
abbrev dktX1_add_1 : List UInt8 := dkwX1_add_1 ++ dktX1_add_2
def dkwX1_add_0 : List UInt8 := [17, 1, 0, 188, 10, 78, 3, 54, 4, 21, 4, 17, 1, 0, 162, 0, 39, 45, 21, 4, 42, 180, 0, 9]
abbrev dktX1_add_0 : List UInt8 := dkwX1_add_0 ++ dktX1_add_1
theorem dksX1_add_0 : cX1_add.data.toList.drop 0 = dktX1_add_0 := by decide +kernel
theorem dksX1_add_1 : cX1_add.data.toList.drop 24 = dktX1_add_1 := dk_seg dksX1_add_0 24 rfl rfl
theorem dksX1_add_2 : cX1_add.data.toList.drop 47 = dktX1_add_2 := dk_seg dksX1_add_1 23 rfl rfl
theorem dX1_add_0 : decode cX1_add 0 = .ok (.sipush 256, 3) := dk_17 1 0 (dk_at dksX1_add_0 0 rfl rfl)
theorem dX1_add_3 : decode cX1_add 3 = .ok (.newarray .int, 2) := dk_188_10 (dk_at dksX1_add_0 3 rfl rfl)
theorem dX1_add_5 : decode cX1_add 5 = .ok (.astore_n 3, 1) := dk_78 (dk_at dksX1_add_0 5 rfl rfl)
theorem dX1_add_6 : decode cX1_add 6 = .ok (.iconst 0, 1) := dk_3 (dk_at dksX1_add_0 6 rfl rfl)
theorem dX1_add_7 : decode cX1_add 7 = .ok (.istore 4, 2) := dk_54 4 (dk_at dksX1_add_0 7 rfl rfl)
theorem dX1_add_9 : decode cX1_add 9 = .ok (.iload 4, 2) := dk_21 4 (dk_at dksX1_add_0 9 rfl rfl)
theorem dX1_add_11 : decode cX1_add 11 = .ok (.sipush 256, 3) := dk_17 1 0 (dk_at dksX1_add_0 11 rfl rfl)
theorem dX1_add_14 : decode cX1_add 14 = .ok (.if_icmp .ge 39, 3) := dk_162 0 39 (dk_at dksX1_add_0 14 rfl rfl)
theorem dX1_add_17 : decode cX1_add 17 = .ok (.aload_n 3, 1) := dk_45 (dk_at dksX1_add_0 17 rfl rfl)
theorem dX1_add_18 : decode cX1_add 18 = .ok (.iload 4, 2) := dk_21 4 (dk_at dksX1_add_0 18 rfl rfl)
theorem dX1_add_20 : decode cX1_add 20 = .ok (.aload_n 0, 1) := dk_42 (dk_at dksX1_add_0 20 rfl rfl)
theorem dX1_add_21 : decode cX1_add 21 = .ok (.getfield 9, 3) := dk_180 0 9 (dk_at dksX1_add_0 21 rfl rfl)
theorem dX1_add_24 : decode cX1_add 24 = .ok (.iload_n 1, 1) := dk_27 (dk_at dksX1_add_1 0 rfl rfl)
theorem dX1_add_25 : decode cX1_add 25 = .ok (.iconst 3, 1) := dk_6 (dk_at dksX1_add_1 1 rfl rfl)
theorem dX1_add_26 : decode cX1_add 26 = .ok (.iand, 1) := dk_126 (dk_at dksX1_add_1 2 rfl rfl)
theorem dX1_add_27 : decode cX1_add 27 = .ok (.aaload, 1) := dk_50 (dk_at dksX1_add_1 3 rfl rfl)
theorem dX1_add_28 : decode cX1_add 28 = .ok (.iload 4, 2) := dk_21 4 (dk_at dksX1_add_1 4 rfl rfl)
theorem dX1_add_30 : decode cX1_add 30 = .ok (.iaload, 1) := dk_46 (dk_at dksX1_add_1 6 rfl rfl)
theorem dX1_add_31 : decode cX1_add 31 = .ok (.aload_n 0, 1) := dk_42 (dk_at dksX1_add_1 7 rfl rfl)
theorem dX1_add_32 : decode cX1_add 32 = .ok (.getfield 9, 3) := dk_180 0 9 (dk_at dksX1_add_1 8 rfl rfl)
theorem dX1_add_35 : decode cX1_add 35 = .ok (.iload_n 2, 1) := dk_28 (dk_at dksX1_add_1 11 rfl rfl)
theorem dX1_add_36 : decode cX1_add 36 = .ok (.iconst 3, 1) := dk_6 (dk_at dksX1_add_1 12 rfl rfl)
theorem dX1_add_37 : decode cX1_add 37 = .ok (.iand, 1) := dk_126 (dk_at dksX1_add_1 13 rfl rfl)
theorem dX1_add_38 : decode cX1_add 38 = .ok (.aaload, 1) := dk_50 (dk_at dksX1_add_1 14 rfl rfl)
theorem dX1_add_39 : decode cX1_add 39 = .ok (.iload 4, 2) := dk_21 4 (dk_at dksX1_add_1 15 rfl rfl)
theorem dX1_add_41 : decode cX1_add 41 = .ok (.iaload, 1) := dk_46 (dk_at dksX1_add_1 17 rfl rfl)
theorem dX1_add_42 : decode cX1_add 42 = .ok (.iadd, 1) := dk_96 (dk_at dksX1_add_1 18 rfl rfl)
theorem dX1_add_43 : decode cX1_add 43 = .ok (.ldc 15, 2) := dk_18 15 (dk_at dksX1_add_1 19 rfl rfl)
theorem dX1_add_45 : decode cX1_add 45 = .ok (.irem, 1) := dk_112 (dk_at dksX1_add_1 21 rfl rfl)
theorem dX1_add_46 : decode cX1_add 46 = .ok (.iastore, 1) := dk_79 (dk_at dksX1_add_1 22 rfl rfl)
theorem dX1_add_47 : decode cX1_add 47 = .ok (.iinc 4 1, 3) := dk_132 4 1 (dk_at dksX1_add_2 0 rfl rfl)
theorem dX1_add_50 : decode cX1_add 50 = .ok (.goto (-41), 3) := dk_167 255 215 (dk_at dksX1_add_2 3 rfl rfl)
theorem dX1_add_53 : decode cX1_add 53 = .ok (.aload_n 0, 1) := dk_42 (dk_at dksX1_add_2 6 rfl rfl)
theorem dX1_add_54 : decode cX1_add 54 = .ok (.getfield 9, 3) := dk_180 0 9 (dk_at dksX1_add_2 7 rfl rfl)
theorem dX1_add_57 : decode cX1_add 57 = .ok (.iload_n 1, 1) := dk_27 (dk_at dksX1_add_2 10 rfl rfl)
theorem dX1_add_58 : decode cX1_add 58 = .ok (.iconst 3, 1) := dk_6 (dk_at dksX1_add_2 11 rfl rfl)
theorem dX1_add_59 : decode cX1_add 59 = .ok (.iand, 1) := dk_126 (dk_at dksX1_add_2 12 rfl rfl)
theorem dX1_add_60 : decode cX1_add 60 = .ok (.aload_n 3, 1) := dk_45 (dk_at dksX1_add_2 13 rfl rfl)
theorem dX1_add_61 : decode cX1_add 61 = .ok (.aastore, 1) := dk_83 (dk_at dksX1_add_2 14 rfl rfl)
theorem dX1_add_62 : decode cX1_add 62 = .ok (.return_, 1) := dk_177 (dk_at dksX1_add_2 15 rfl rfl)
abbrev cX1_coefficient : ByteArray := prog_3_method_6_code
def yX1_coefficient : MethodName := ⟨RX1, "coefficient", "(II)I"⟩
def dkwX1_coefficient_0 : List UInt8 := [42, 180, 0, 9, 27, 6, 126, 50, 28, 17, 0, 255, 126, 46, 172]
abbrev dktX1_coefficient_0 : List UInt8 := dkwX1_coefficient_0 ++ []
theorem dksX1_coefficient_0 : cX1_coefficient.data.toList.drop 0 = dktX1_coefficient_0 := by decide +kernel
theorem dX1_coefficient_0 : decode cX1_coefficient 0 = .ok (.aload_n 0, 1) := dk_42 (dk_at dksX1_coefficient_0 0 rfl rfl)
theorem dX1_coefficient_1 : decode cX1_coefficient 1 = .ok (.getfield 9, 3) := dk_180 0 9 (dk_at dksX1_coefficient_0 1 rfl rfl)
theorem dX1_coefficient_4 : decode cX1_coefficient 4 = .ok (.iload_n 1, 1) := dk_27 (dk_at dksX1_coefficient_0 4 rfl rfl)
theorem dX1_coefficient_5 : decode cX1_coefficient 5 = .ok (.iconst 3, 1) := dk_6 (dk_at dksX1_coefficient_0 5 rfl rfl)
theorem dX1_coefficient_6 : decode cX1_coefficient 6 = .ok (.iand, 1) := dk_126 (dk_at dksX1_coefficient_0 6 rfl rfl)
theorem dX1_coefficient_7 : decode cX1_coefficient 7 = .ok (.aaload, 1) := dk_50 (dk_at dksX1_coefficient_0 7 rfl rfl)
theorem dX1_coefficient_8 : decode cX1_coefficient 8 = .ok (.iload_n 2, 1) := dk_28 (dk_at dksX1_coefficient_0 8 rfl rfl)
theorem dX1_coefficient_9 : decode cX1_coefficient 9 = .ok (.sipush 255, 3) := dk_17 0 255 (dk_at dksX1_coefficient_0 9 rfl rfl)
theorem dX1_coefficient_12 : decode cX1_coefficient 12 = .ok (.iand, 1) := dk_126 (dk_at dksX1_coefficient_0 12 rfl rfl)
theorem dX1_coefficient_13 : decode cX1_coefficient 13 = .ok (.iaload, 1) := dk_46 (dk_at dksX1_coefficient_0 13 rfl rfl)
theorem dX1_coefficient_14 : decode cX1_coefficient 14 = .ok (.ireturn, 1) := dk_172 (dk_at dksX1_coefficient_0 14 rfl rfl)
abbrev cX1_hinted : ByteArray := prog_3_method_7_code
def yX1_hinted : MethodName := ⟨RX1, "hinted", "(III)I"⟩
def dkwX1_hinted_5 : List UInt8 := [21, 8, 21, 6, 96, 4, 100, 21, 6, 112, 172]
abbrev dktX1_hinted_5 : List UInt8 := dkwX1_hinted_5 ++ []
def dkwX1_hinted_4 : List UInt8 := [28, 4, 126, 154, 0, 6, 21, 8, 172, 21, 7, 158, 0, 13, 21, 8, 4, 96, 21, 6, 112, 167, 0, 13]
abbrev dktX1_hinted_4 : List UInt8 := dkwX1_hinted_4 ++ dktX1_hinted_5
def dkwX1_hinted_3 : List UInt8 := [160, 0, 12, 21, 7, 4, 100, 54, 7, 167, 0, 15, 21, 5, 21, 7, 100, 5, 21, 4, 104, 108, 54, 8]
abbrev dktX1_hinted_3 : List UInt8 := dkwX1_hinted_3 ++ dktX1_hinted_4
def dkwX1_hinted_2 : List UInt8 := [164, 0, 12, 21, 7, 5, 21, 4, 104, 100, 54, 7, 3, 54, 8, 21, 5, 21, 7, 100, 18, 20]
abbrev dktX1_hinted_2 : List UInt8 := dkwX1_hinted_2 ++ dktX1_hinted_3
def dkwX1_hinted_1 : List UInt8 := [18, 20, 5, 21, 4, 104, 108, 54, 6, 21, 5, 5, 21, 4, 104, 112, 54, 7, 21, 7, 21, 4]
abbrev dktX1_hinted_1 : List UInt8 := dkwX1_hinted_1 ++ dktX1_hinted_2
def dkwX1_hinted_0 : List UInt8 := [29, 4, 126, 154, 0, 8, 18, 18, 167, 0, 5, 18, 19, 54, 4, 27, 18, 14, 126, 18, 15, 112, 54, 5]
abbrev dktX1_hinted_0 : List UInt8 := dkwX1_hinted_0 ++ dktX1_hinted_1
theorem dksX1_hinted_0 : cX1_hinted.data.toList.drop 0 = dktX1_hinted_0 := by decide +kernel
theorem dksX1_hinted_1 : cX1_hinted.data.toList.drop 24 = dktX1_hinted_1 := dk_seg dksX1_hinted_0 24 rfl rfl
theorem dksX1_hinted_2 : cX1_hinted.data.toList.drop 46 = dktX1_hinted_2 := dk_seg dksX1_hinted_1 22 rfl rfl
theorem dksX1_hinted_3 : cX1_hinted.data.toList.drop 68 = dktX1_hinted_3 := dk_seg dksX1_hinted_2 22 rfl rfl
theorem dksX1_hinted_4 : cX1_hinted.data.toList.drop 92 = dktX1_hinted_4 := dk_seg dksX1_hinted_3 24 rfl rfl
theorem dksX1_hinted_5 : cX1_hinted.data.toList.drop 116 = dktX1_hinted_5 := dk_seg dksX1_hinted_4 24 rfl rfl
theorem dX1_hinted_0 : decode cX1_hinted 0 = .ok (.iload_n 3, 1) := dk_29 (dk_at dksX1_hinted_0 0 rfl rfl)
theorem dX1_hinted_1 : decode cX1_hinted 1 = .ok (.iconst 1, 1) := dk_4 (dk_at dksX1_hinted_0 1 rfl rfl)
theorem dX1_hinted_2 : decode cX1_hinted 2 = .ok (.iand, 1) := dk_126 (dk_at dksX1_hinted_0 2 rfl rfl)
theorem dX1_hinted_3 : decode cX1_hinted 3 = .ok (.ifCond .ne 8, 3) := dk_154 0 8 (dk_at dksX1_hinted_0 3 rfl rfl)
theorem dX1_hinted_6 : decode cX1_hinted 6 = .ok (.ldc 18, 2) := dk_18 18 (dk_at dksX1_hinted_0 6 rfl rfl)
theorem dX1_hinted_8 : decode cX1_hinted 8 = .ok (.goto 5, 3) := dk_167 0 5 (dk_at dksX1_hinted_0 8 rfl rfl)
theorem dX1_hinted_11 : decode cX1_hinted 11 = .ok (.ldc 19, 2) := dk_18 19 (dk_at dksX1_hinted_0 11 rfl rfl)
theorem dX1_hinted_13 : decode cX1_hinted 13 = .ok (.istore 4, 2) := dk_54 4 (dk_at dksX1_hinted_0 13 rfl rfl)
theorem dX1_hinted_15 : decode cX1_hinted 15 = .ok (.iload_n 1, 1) := dk_27 (dk_at dksX1_hinted_0 15 rfl rfl)
theorem dX1_hinted_16 : decode cX1_hinted 16 = .ok (.ldc 14, 2) := dk_18 14 (dk_at dksX1_hinted_0 16 rfl rfl)
theorem dX1_hinted_18 : decode cX1_hinted 18 = .ok (.iand, 1) := dk_126 (dk_at dksX1_hinted_0 18 rfl rfl)
theorem dX1_hinted_19 : decode cX1_hinted 19 = .ok (.ldc 15, 2) := dk_18 15 (dk_at dksX1_hinted_0 19 rfl rfl)
theorem dX1_hinted_21 : decode cX1_hinted 21 = .ok (.irem, 1) := dk_112 (dk_at dksX1_hinted_0 21 rfl rfl)
theorem dX1_hinted_22 : decode cX1_hinted 22 = .ok (.istore 5, 2) := dk_54 5 (dk_at dksX1_hinted_0 22 rfl rfl)
theorem dX1_hinted_24 : decode cX1_hinted 24 = .ok (.ldc 20, 2) := dk_18 20 (dk_at dksX1_hinted_1 0 rfl rfl)
theorem dX1_hinted_26 : decode cX1_hinted 26 = .ok (.iconst 2, 1) := dk_5 (dk_at dksX1_hinted_1 2 rfl rfl)
theorem dX1_hinted_27 : decode cX1_hinted 27 = .ok (.iload 4, 2) := dk_21 4 (dk_at dksX1_hinted_1 3 rfl rfl)
theorem dX1_hinted_29 : decode cX1_hinted 29 = .ok (.imul, 1) := dk_104 (dk_at dksX1_hinted_1 5 rfl rfl)
theorem dX1_hinted_30 : decode cX1_hinted 30 = .ok (.idiv, 1) := dk_108 (dk_at dksX1_hinted_1 6 rfl rfl)
theorem dX1_hinted_31 : decode cX1_hinted 31 = .ok (.istore 6, 2) := dk_54 6 (dk_at dksX1_hinted_1 7 rfl rfl)
theorem dX1_hinted_33 : decode cX1_hinted 33 = .ok (.iload 5, 2) := dk_21 5 (dk_at dksX1_hinted_1 9 rfl rfl)
theorem dX1_hinted_35 : decode cX1_hinted 35 = .ok (.iconst 2, 1) := dk_5 (dk_at dksX1_hinted_1 11 rfl rfl)
theorem dX1_hinted_36 : decode cX1_hinted 36 = .ok (.iload 4, 2) := dk_21 4 (dk_at dksX1_hinted_1 12 rfl rfl)
theorem dX1_hinted_38 : decode cX1_hinted 38 = .ok (.imul, 1) := dk_104 (dk_at dksX1_hinted_1 14 rfl rfl)
theorem dX1_hinted_39 : decode cX1_hinted 39 = .ok (.irem, 1) := dk_112 (dk_at dksX1_hinted_1 15 rfl rfl)
theorem dX1_hinted_40 : decode cX1_hinted 40 = .ok (.istore 7, 2) := dk_54 7 (dk_at dksX1_hinted_1 16 rfl rfl)
theorem dX1_hinted_42 : decode cX1_hinted 42 = .ok (.iload 7, 2) := dk_21 7 (dk_at dksX1_hinted_1 18 rfl rfl)
theorem dX1_hinted_44 : decode cX1_hinted 44 = .ok (.iload 4, 2) := dk_21 4 (dk_at dksX1_hinted_1 20 rfl rfl)
theorem dX1_hinted_46 : decode cX1_hinted 46 = .ok (.if_icmp .le 12, 3) := dk_164 0 12 (dk_at dksX1_hinted_2 0 rfl rfl)
theorem dX1_hinted_49 : decode cX1_hinted 49 = .ok (.iload 7, 2) := dk_21 7 (dk_at dksX1_hinted_2 3 rfl rfl)
theorem dX1_hinted_51 : decode cX1_hinted 51 = .ok (.iconst 2, 1) := dk_5 (dk_at dksX1_hinted_2 5 rfl rfl)
theorem dX1_hinted_52 : decode cX1_hinted 52 = .ok (.iload 4, 2) := dk_21 4 (dk_at dksX1_hinted_2 6 rfl rfl)
theorem dX1_hinted_54 : decode cX1_hinted 54 = .ok (.imul, 1) := dk_104 (dk_at dksX1_hinted_2 8 rfl rfl)
theorem dX1_hinted_55 : decode cX1_hinted 55 = .ok (.isub, 1) := dk_100 (dk_at dksX1_hinted_2 9 rfl rfl)
theorem dX1_hinted_56 : decode cX1_hinted 56 = .ok (.istore 7, 2) := dk_54 7 (dk_at dksX1_hinted_2 10 rfl rfl)
theorem dX1_hinted_58 : decode cX1_hinted 58 = .ok (.iconst 0, 1) := dk_3 (dk_at dksX1_hinted_2 12 rfl rfl)
theorem dX1_hinted_59 : decode cX1_hinted 59 = .ok (.istore 8, 2) := dk_54 8 (dk_at dksX1_hinted_2 13 rfl rfl)
theorem dX1_hinted_61 : decode cX1_hinted 61 = .ok (.iload 5, 2) := dk_21 5 (dk_at dksX1_hinted_2 15 rfl rfl)
theorem dX1_hinted_63 : decode cX1_hinted 63 = .ok (.iload 7, 2) := dk_21 7 (dk_at dksX1_hinted_2 17 rfl rfl)
theorem dX1_hinted_65 : decode cX1_hinted 65 = .ok (.isub, 1) := dk_100 (dk_at dksX1_hinted_2 19 rfl rfl)
theorem dX1_hinted_66 : decode cX1_hinted 66 = .ok (.ldc 20, 2) := dk_18 20 (dk_at dksX1_hinted_2 20 rfl rfl)
theorem dX1_hinted_68 : decode cX1_hinted 68 = .ok (.if_icmp .ne 12, 3) := dk_160 0 12 (dk_at dksX1_hinted_3 0 rfl rfl)
theorem dX1_hinted_71 : decode cX1_hinted 71 = .ok (.iload 7, 2) := dk_21 7 (dk_at dksX1_hinted_3 3 rfl rfl)
theorem dX1_hinted_73 : decode cX1_hinted 73 = .ok (.iconst 1, 1) := dk_4 (dk_at dksX1_hinted_3 5 rfl rfl)
theorem dX1_hinted_74 : decode cX1_hinted 74 = .ok (.isub, 1) := dk_100 (dk_at dksX1_hinted_3 6 rfl rfl)
theorem dX1_hinted_75 : decode cX1_hinted 75 = .ok (.istore 7, 2) := dk_54 7 (dk_at dksX1_hinted_3 7 rfl rfl)
theorem dX1_hinted_77 : decode cX1_hinted 77 = .ok (.goto 15, 3) := dk_167 0 15 (dk_at dksX1_hinted_3 9 rfl rfl)
theorem dX1_hinted_80 : decode cX1_hinted 80 = .ok (.iload 5, 2) := dk_21 5 (dk_at dksX1_hinted_3 12 rfl rfl)
theorem dX1_hinted_82 : decode cX1_hinted 82 = .ok (.iload 7, 2) := dk_21 7 (dk_at dksX1_hinted_3 14 rfl rfl)
theorem dX1_hinted_84 : decode cX1_hinted 84 = .ok (.isub, 1) := dk_100 (dk_at dksX1_hinted_3 16 rfl rfl)
theorem dX1_hinted_85 : decode cX1_hinted 85 = .ok (.iconst 2, 1) := dk_5 (dk_at dksX1_hinted_3 17 rfl rfl)
theorem dX1_hinted_86 : decode cX1_hinted 86 = .ok (.iload 4, 2) := dk_21 4 (dk_at dksX1_hinted_3 18 rfl rfl)
theorem dX1_hinted_88 : decode cX1_hinted 88 = .ok (.imul, 1) := dk_104 (dk_at dksX1_hinted_3 20 rfl rfl)
theorem dX1_hinted_89 : decode cX1_hinted 89 = .ok (.idiv, 1) := dk_108 (dk_at dksX1_hinted_3 21 rfl rfl)
theorem dX1_hinted_90 : decode cX1_hinted 90 = .ok (.istore 8, 2) := dk_54 8 (dk_at dksX1_hinted_3 22 rfl rfl)
theorem dX1_hinted_92 : decode cX1_hinted 92 = .ok (.iload_n 2, 1) := dk_28 (dk_at dksX1_hinted_4 0 rfl rfl)
theorem dX1_hinted_93 : decode cX1_hinted 93 = .ok (.iconst 1, 1) := dk_4 (dk_at dksX1_hinted_4 1 rfl rfl)
theorem dX1_hinted_94 : decode cX1_hinted 94 = .ok (.iand, 1) := dk_126 (dk_at dksX1_hinted_4 2 rfl rfl)
theorem dX1_hinted_95 : decode cX1_hinted 95 = .ok (.ifCond .ne 6, 3) := dk_154 0 6 (dk_at dksX1_hinted_4 3 rfl rfl)
theorem dX1_hinted_98 : decode cX1_hinted 98 = .ok (.iload 8, 2) := dk_21 8 (dk_at dksX1_hinted_4 6 rfl rfl)
theorem dX1_hinted_100 : decode cX1_hinted 100 = .ok (.ireturn, 1) := dk_172 (dk_at dksX1_hinted_4 8 rfl rfl)
theorem dX1_hinted_101 : decode cX1_hinted 101 = .ok (.iload 7, 2) := dk_21 7 (dk_at dksX1_hinted_4 9 rfl rfl)
theorem dX1_hinted_103 : decode cX1_hinted 103 = .ok (.ifCond .le 13, 3) := dk_158 0 13 (dk_at dksX1_hinted_4 11 rfl rfl)
theorem dX1_hinted_106 : decode cX1_hinted 106 = .ok (.iload 8, 2) := dk_21 8 (dk_at dksX1_hinted_4 14 rfl rfl)
theorem dX1_hinted_108 : decode cX1_hinted 108 = .ok (.iconst 1, 1) := dk_4 (dk_at dksX1_hinted_4 16 rfl rfl)
theorem dX1_hinted_109 : decode cX1_hinted 109 = .ok (.iadd, 1) := dk_96 (dk_at dksX1_hinted_4 17 rfl rfl)
theorem dX1_hinted_110 : decode cX1_hinted 110 = .ok (.iload 6, 2) := dk_21 6 (dk_at dksX1_hinted_4 18 rfl rfl)
theorem dX1_hinted_112 : decode cX1_hinted 112 = .ok (.irem, 1) := dk_112 (dk_at dksX1_hinted_4 20 rfl rfl)
theorem dX1_hinted_113 : decode cX1_hinted 113 = .ok (.goto 13, 3) := dk_167 0 13 (dk_at dksX1_hinted_4 21 rfl rfl)
theorem dX1_hinted_116 : decode cX1_hinted 116 = .ok (.iload 8, 2) := dk_21 8 (dk_at dksX1_hinted_5 0 rfl rfl)
theorem dX1_hinted_118 : decode cX1_hinted 118 = .ok (.iload 6, 2) := dk_21 6 (dk_at dksX1_hinted_5 2 rfl rfl)
theorem dX1_hinted_120 : decode cX1_hinted 120 = .ok (.iadd, 1) := dk_96 (dk_at dksX1_hinted_5 4 rfl rfl)
theorem dX1_hinted_121 : decode cX1_hinted 121 = .ok (.iconst 1, 1) := dk_4 (dk_at dksX1_hinted_5 5 rfl rfl)
theorem dX1_hinted_122 : decode cX1_hinted 122 = .ok (.isub, 1) := dk_100 (dk_at dksX1_hinted_5 6 rfl rfl)
theorem dX1_hinted_123 : decode cX1_hinted 123 = .ok (.iload 6, 2) := dk_21 6 (dk_at dksX1_hinted_5 7 rfl rfl)
theorem dX1_hinted_125 : decode cX1_hinted 125 = .ok (.irem, 1) := dk_112 (dk_at dksX1_hinted_5 9 rfl rfl)
theorem dX1_hinted_126 : decode cX1_hinted 126 = .ok (.ireturn, 1) := dk_172 (dk_at dksX1_hinted_5 10 rfl rfl)
abbrev cX1_montgomery : ByteArray := prog_3_method_8_code
def yX1_montgomery : MethodName := ⟨RX1, "montgomery", "(II)I"⟩
def dkwX1_montgomery_2 : List UInt8 := [136, 172]
abbrev dktX1_montgomery_2 : List UInt8 := dkwX1_montgomery_2 ++ []
def dkwX1_montgomery_1 : List UInt8 := [22, 5, 20, 0, 16, 97, 55, 5, 33, 22, 5, 105, 20, 0, 16, 113, 20, 0, 21, 105, 20, 0, 16, 113]
abbrev dktX1_montgomery_1 : List UInt8 := dkwX1_montgomery_1 ++ dktX1_montgomery_2
def dkwX1_montgomery_0 : List UInt8 := [27, 18, 14, 126, 18, 15, 112, 133, 66, 28, 18, 15, 112, 133, 55, 5, 22, 5, 9, 148, 156, 0, 11]
abbrev dktX1_montgomery_0 : List UInt8 := dkwX1_montgomery_0 ++ dktX1_montgomery_1
theorem dksX1_montgomery_0 : cX1_montgomery.data.toList.drop 0 = dktX1_montgomery_0 := by decide +kernel
theorem dksX1_montgomery_1 : cX1_montgomery.data.toList.drop 23 = dktX1_montgomery_1 := dk_seg dksX1_montgomery_0 23 rfl rfl
theorem dksX1_montgomery_2 : cX1_montgomery.data.toList.drop 47 = dktX1_montgomery_2 := dk_seg dksX1_montgomery_1 24 rfl rfl
theorem dX1_montgomery_0 : decode cX1_montgomery 0 = .ok (.iload_n 1, 1) := dk_27 (dk_at dksX1_montgomery_0 0 rfl rfl)
theorem dX1_montgomery_1 : decode cX1_montgomery 1 = .ok (.ldc 14, 2) := dk_18 14 (dk_at dksX1_montgomery_0 1 rfl rfl)
theorem dX1_montgomery_3 : decode cX1_montgomery 3 = .ok (.iand, 1) := dk_126 (dk_at dksX1_montgomery_0 3 rfl rfl)
theorem dX1_montgomery_4 : decode cX1_montgomery 4 = .ok (.ldc 15, 2) := dk_18 15 (dk_at dksX1_montgomery_0 4 rfl rfl)
theorem dX1_montgomery_6 : decode cX1_montgomery 6 = .ok (.irem, 1) := dk_112 (dk_at dksX1_montgomery_0 6 rfl rfl)
theorem dX1_montgomery_7 : decode cX1_montgomery 7 = .ok (.i2l, 1) := dk_133 (dk_at dksX1_montgomery_0 7 rfl rfl)
theorem dX1_montgomery_8 : decode cX1_montgomery 8 = .ok (.lstore_n 3, 1) := dk_66 (dk_at dksX1_montgomery_0 8 rfl rfl)
theorem dX1_montgomery_9 : decode cX1_montgomery 9 = .ok (.iload_n 2, 1) := dk_28 (dk_at dksX1_montgomery_0 9 rfl rfl)
theorem dX1_montgomery_10 : decode cX1_montgomery 10 = .ok (.ldc 15, 2) := dk_18 15 (dk_at dksX1_montgomery_0 10 rfl rfl)
theorem dX1_montgomery_12 : decode cX1_montgomery 12 = .ok (.irem, 1) := dk_112 (dk_at dksX1_montgomery_0 12 rfl rfl)
theorem dX1_montgomery_13 : decode cX1_montgomery 13 = .ok (.i2l, 1) := dk_133 (dk_at dksX1_montgomery_0 13 rfl rfl)
theorem dX1_montgomery_14 : decode cX1_montgomery 14 = .ok (.lstore 5, 2) := dk_55 5 (dk_at dksX1_montgomery_0 14 rfl rfl)
theorem dX1_montgomery_16 : decode cX1_montgomery 16 = .ok (.lload 5, 2) := dk_22 5 (dk_at dksX1_montgomery_0 16 rfl rfl)
theorem dX1_montgomery_18 : decode cX1_montgomery 18 = .ok (.lconst 0, 1) := dk_9 (dk_at dksX1_montgomery_0 18 rfl rfl)
theorem dX1_montgomery_19 : decode cX1_montgomery 19 = .ok (.lcmp, 1) := dk_148 (dk_at dksX1_montgomery_0 19 rfl rfl)
theorem dX1_montgomery_20 : decode cX1_montgomery 20 = .ok (.ifCond .ge 11, 3) := dk_156 0 11 (dk_at dksX1_montgomery_0 20 rfl rfl)
theorem dX1_montgomery_23 : decode cX1_montgomery 23 = .ok (.lload 5, 2) := dk_22 5 (dk_at dksX1_montgomery_1 0 rfl rfl)
theorem dX1_montgomery_25 : decode cX1_montgomery 25 = .ok (.ldc2_w 16, 3) := dk_20 0 16 (dk_at dksX1_montgomery_1 2 rfl rfl)
theorem dX1_montgomery_28 : decode cX1_montgomery 28 = .ok (.ladd, 1) := dk_97 (dk_at dksX1_montgomery_1 5 rfl rfl)
theorem dX1_montgomery_29 : decode cX1_montgomery 29 = .ok (.lstore 5, 2) := dk_55 5 (dk_at dksX1_montgomery_1 6 rfl rfl)
theorem dX1_montgomery_31 : decode cX1_montgomery 31 = .ok (.lload_n 3, 1) := dk_33 (dk_at dksX1_montgomery_1 8 rfl rfl)
theorem dX1_montgomery_32 : decode cX1_montgomery 32 = .ok (.lload 5, 2) := dk_22 5 (dk_at dksX1_montgomery_1 9 rfl rfl)
theorem dX1_montgomery_34 : decode cX1_montgomery 34 = .ok (.lmul, 1) := dk_105 (dk_at dksX1_montgomery_1 11 rfl rfl)
theorem dX1_montgomery_35 : decode cX1_montgomery 35 = .ok (.ldc2_w 16, 3) := dk_20 0 16 (dk_at dksX1_montgomery_1 12 rfl rfl)
theorem dX1_montgomery_38 : decode cX1_montgomery 38 = .ok (.lrem, 1) := dk_113 (dk_at dksX1_montgomery_1 15 rfl rfl)
theorem dX1_montgomery_39 : decode cX1_montgomery 39 = .ok (.ldc2_w 21, 3) := dk_20 0 21 (dk_at dksX1_montgomery_1 16 rfl rfl)
theorem dX1_montgomery_42 : decode cX1_montgomery 42 = .ok (.lmul, 1) := dk_105 (dk_at dksX1_montgomery_1 19 rfl rfl)
theorem dX1_montgomery_43 : decode cX1_montgomery 43 = .ok (.ldc2_w 16, 3) := dk_20 0 16 (dk_at dksX1_montgomery_1 20 rfl rfl)
theorem dX1_montgomery_46 : decode cX1_montgomery 46 = .ok (.lrem, 1) := dk_113 (dk_at dksX1_montgomery_1 23 rfl rfl)
theorem dX1_montgomery_47 : decode cX1_montgomery 47 = .ok (.l2i, 1) := dk_136 (dk_at dksX1_montgomery_2 0 rfl rfl)
theorem dX1_montgomery_48 : decode cX1_montgomery 48 = .ok (.ireturn, 1) := dk_172 (dk_at dksX1_montgomery_2 1 rfl rfl)
abbrev cX1_brought : ByteArray := prog_3_method_9_code
def yX1_brought : MethodName := ⟨RX1, "brought", "(I)I"⟩
def dkwX1_brought_1 : List UInt8 := [28, 172]
abbrev dktX1_brought_1 : List UInt8 := dkwX1_brought_1 ++ []
def dkwX1_brought_0 : List UInt8 := [27, 18, 23, 164, 0, 5, 2, 172, 27, 18, 15, 112, 61, 28, 156, 0, 10, 28, 18, 15, 96, 167, 0, 4]
abbrev dktX1_brought_0 : List UInt8 := dkwX1_brought_0 ++ dktX1_brought_1
theorem dksX1_brought_0 : cX1_brought.data.toList.drop 0 = dktX1_brought_0 := by decide +kernel
theorem dksX1_brought_1 : cX1_brought.data.toList.drop 24 = dktX1_brought_1 := dk_seg dksX1_brought_0 24 rfl rfl
theorem dX1_brought_0 : decode cX1_brought 0 = .ok (.iload_n 1, 1) := dk_27 (dk_at dksX1_brought_0 0 rfl rfl)
theorem dX1_brought_1 : decode cX1_brought 1 = .ok (.ldc 23, 2) := dk_18 23 (dk_at dksX1_brought_0 1 rfl rfl)
theorem dX1_brought_3 : decode cX1_brought 3 = .ok (.if_icmp .le 5, 3) := dk_164 0 5 (dk_at dksX1_brought_0 3 rfl rfl)
theorem dX1_brought_6 : decode cX1_brought 6 = .ok (.iconst (-1), 1) := dk_2 (dk_at dksX1_brought_0 6 rfl rfl)
theorem dX1_brought_7 : decode cX1_brought 7 = .ok (.ireturn, 1) := dk_172 (dk_at dksX1_brought_0 7 rfl rfl)
theorem dX1_brought_8 : decode cX1_brought 8 = .ok (.iload_n 1, 1) := dk_27 (dk_at dksX1_brought_0 8 rfl rfl)
theorem dX1_brought_9 : decode cX1_brought 9 = .ok (.ldc 15, 2) := dk_18 15 (dk_at dksX1_brought_0 9 rfl rfl)
theorem dX1_brought_11 : decode cX1_brought 11 = .ok (.irem, 1) := dk_112 (dk_at dksX1_brought_0 11 rfl rfl)
theorem dX1_brought_12 : decode cX1_brought 12 = .ok (.istore_n 2, 1) := dk_61 (dk_at dksX1_brought_0 12 rfl rfl)
theorem dX1_brought_13 : decode cX1_brought 13 = .ok (.iload_n 2, 1) := dk_28 (dk_at dksX1_brought_0 13 rfl rfl)
theorem dX1_brought_14 : decode cX1_brought 14 = .ok (.ifCond .ge 10, 3) := dk_156 0 10 (dk_at dksX1_brought_0 14 rfl rfl)
theorem dX1_brought_17 : decode cX1_brought 17 = .ok (.iload_n 2, 1) := dk_28 (dk_at dksX1_brought_0 17 rfl rfl)
theorem dX1_brought_18 : decode cX1_brought 18 = .ok (.ldc 15, 2) := dk_18 15 (dk_at dksX1_brought_0 18 rfl rfl)
theorem dX1_brought_20 : decode cX1_brought 20 = .ok (.iadd, 1) := dk_96 (dk_at dksX1_brought_0 20 rfl rfl)
theorem dX1_brought_21 : decode cX1_brought 21 = .ok (.goto 4, 3) := dk_167 0 4 (dk_at dksX1_brought_0 21 rfl rfl)
theorem dX1_brought_24 : decode cX1_brought 24 = .ok (.iload_n 2, 1) := dk_28 (dk_at dksX1_brought_1 0 rfl rfl)
theorem dX1_brought_25 : decode cX1_brought 25 = .ok (.ireturn, 1) := dk_172 (dk_at dksX1_brought_1 1 rfl rfl)
theorem q3 : (Jvm.Cond.initialized "HintRingModel") ∈ lw_all := lw_g (lw_at lw_m0 2 rfl) rfl
theorem q166 : (Jvm.Cond.instantiable "HintRingModel" (1 : Nat)) ∈ lw_all := lw_g (lw_at lw_m0 165 rfl) rfl
theorem q168 : (Jvm.Cond.instanceMethod ({ cls := "HintRingModel", name := "<init>", desc := "()V" } : Jvm.MethodName)) ∈ lw_all := lw_g (lw_at lw_m0 167 rfl) rfl
theorem q169 : (Jvm.Cond.code ({ cls := "HintRingModel", name := "<init>", desc := "()V" } : Jvm.MethodName) prog_3_method_1_code (1 : Nat) (Option.none : Option Jvm.ClassFile.FieldType)) ∈ lw_all := lw_g (lw_at lw_m0 168 rfl) rfl
theorem q170 : (Jvm.Cond.methodLink "HintRingModel" (1 : Nat) ({ cls := "java/lang/Object", name := "<init>", desc := "()V" } : Jvm.MethodName)) ∈ lw_all := lw_g (lw_at lw_m0 169 rfl) rfl
theorem q171 : (Jvm.Cond.classLink "HintRingModel" (7 : Nat) "[[I") ∈ lw_all := lw_g (lw_at lw_m0 170 rfl) rfl
theorem q172 : (Jvm.Cond.fieldLink "HintRingModel" (9 : Nat) "HintRingModel" "file" "[[I") ∈ lw_all := lw_g (lw_at lw_m0 171 rfl) rfl
theorem q173 : (Jvm.Cond.lays "HintRingModel" "HintRingModel" "file" "[[I") ∈ lw_all := lw_g (lw_at lw_m0 172 rfl) rfl
theorem q174 : (Jvm.Cond.soleField "HintRingModel" "file") ∈ lw_all := lw_g (lw_at lw_m0 173 rfl) rfl
theorem q175 : (Jvm.Cond.superclass "HintRingModel" "java/lang/Object") ∈ lw_all := lw_g (lw_at lw_m0 174 rfl) rfl
theorem q177 : (Jvm.Cond.instanceMethod ({ cls := "HintRingModel", name := "put", desc := "(III)V" } : Jvm.MethodName)) ∈ lw_all := lw_g (lw_at lw_m0 176 rfl) rfl
theorem q178 : (Jvm.Cond.selects "HintRingModel" ({ cls := "HintRingModel", name := "put", desc := "(III)V" } : Jvm.MethodName) ({ cls := "HintRingModel", name := "put", desc := "(III)V" } : Jvm.MethodName)) ∈ lw_all := lw_g (lw_at lw_m0 177 rfl) rfl
theorem q179 : (Jvm.Cond.code ({ cls := "HintRingModel", name := "put", desc := "(III)V" } : Jvm.MethodName) prog_3_method_2_code (4 : Nat) (Option.none : Option Jvm.ClassFile.FieldType)) ∈ lw_all := lw_g (lw_at lw_m0 178 rfl) rfl
theorem q180 : (Jvm.Cond.constant "HintRingModel" (14 : Nat) (2147483647 : Int32)) ∈ lw_all := lw_g (lw_at lw_m0 179 rfl) rfl
theorem q181 : (Jvm.Cond.constant "HintRingModel" (15 : Nat) (8380417 : Int32)) ∈ lw_all := lw_g (lw_at lw_m0 180 rfl) rfl
theorem q183 : (Jvm.Cond.instanceMethod ({ cls := "HintRingModel", name := "spread", desc := "(III)V" } : Jvm.MethodName)) ∈ lw_all := lw_g (lw_at lw_m0 182 rfl) rfl
theorem q184 : (Jvm.Cond.selects "HintRingModel" ({ cls := "HintRingModel", name := "spread", desc := "(III)V" } : Jvm.MethodName) ({ cls := "HintRingModel", name := "spread", desc := "(III)V" } : Jvm.MethodName)) ∈ lw_all := lw_g (lw_at lw_m0 183 rfl) rfl
theorem q185 : (Jvm.Cond.code ({ cls := "HintRingModel", name := "spread", desc := "(III)V" } : Jvm.MethodName) prog_3_method_3_code (5 : Nat) (Option.none : Option Jvm.ClassFile.FieldType)) ∈ lw_all := lw_g (lw_at lw_m0 184 rfl) rfl
theorem q187 : (Jvm.Cond.instanceMethod ({ cls := "HintRingModel", name := "multiply", desc := "(III)V" } : Jvm.MethodName)) ∈ lw_all := lw_g (lw_at lw_m0 186 rfl) rfl
theorem q188 : (Jvm.Cond.selects "HintRingModel" ({ cls := "HintRingModel", name := "multiply", desc := "(III)V" } : Jvm.MethodName) ({ cls := "HintRingModel", name := "multiply", desc := "(III)V" } : Jvm.MethodName)) ∈ lw_all := lw_g (lw_at lw_m0 187 rfl) rfl
theorem q189 : (Jvm.Cond.code ({ cls := "HintRingModel", name := "multiply", desc := "(III)V" } : Jvm.MethodName) prog_3_method_4_code (8 : Nat) (Option.none : Option Jvm.ClassFile.FieldType)) ∈ lw_all := lw_g (lw_at lw_m0 188 rfl) rfl
theorem q190 : (Jvm.Cond.constantLong "HintRingModel" (16 : Nat) (8380417 : Int64)) ∈ lw_all := lw_g (lw_at lw_m0 189 rfl) rfl
theorem q192 : (Jvm.Cond.instanceMethod ({ cls := "HintRingModel", name := "add", desc := "(II)V" } : Jvm.MethodName)) ∈ lw_all := lw_g (lw_at lw_m0 191 rfl) rfl
theorem q193 : (Jvm.Cond.selects "HintRingModel" ({ cls := "HintRingModel", name := "add", desc := "(II)V" } : Jvm.MethodName) ({ cls := "HintRingModel", name := "add", desc := "(II)V" } : Jvm.MethodName)) ∈ lw_all := lw_g (lw_at lw_m0 192 rfl) rfl
theorem q194 : (Jvm.Cond.code ({ cls := "HintRingModel", name := "add", desc := "(II)V" } : Jvm.MethodName) prog_3_method_5_code (5 : Nat) (Option.none : Option Jvm.ClassFile.FieldType)) ∈ lw_all := lw_g (lw_at lw_m0 193 rfl) rfl
theorem q196 : (Jvm.Cond.instanceMethod ({ cls := "HintRingModel", name := "coefficient", desc := "(II)I" } : Jvm.MethodName)) ∈ lw_all := lw_g (lw_at lw_m0 195 rfl) rfl
theorem q197 : (Jvm.Cond.selects "HintRingModel" ({ cls := "HintRingModel", name := "coefficient", desc := "(II)I" } : Jvm.MethodName) ({ cls := "HintRingModel", name := "coefficient", desc := "(II)I" } : Jvm.MethodName)) ∈ lw_all := lw_g (lw_at lw_m0 196 rfl) rfl
theorem q198 : (Jvm.Cond.code ({ cls := "HintRingModel", name := "coefficient", desc := "(II)I" } : Jvm.MethodName) prog_3_method_6_code (3 : Nat) (Option.some Jvm.ClassFile.FieldType.int)) ∈ lw_all := lw_g (lw_at lw_m0 197 rfl) rfl
theorem q200 : (Jvm.Cond.instanceMethod ({ cls := "HintRingModel", name := "hinted", desc := "(III)I" } : Jvm.MethodName)) ∈ lw_all := lw_g (lw_at lw_m0 199 rfl) rfl
theorem q201 : (Jvm.Cond.selects "HintRingModel" ({ cls := "HintRingModel", name := "hinted", desc := "(III)I" } : Jvm.MethodName) ({ cls := "HintRingModel", name := "hinted", desc := "(III)I" } : Jvm.MethodName)) ∈ lw_all := lw_g (lw_at lw_m0 200 rfl) rfl
theorem q202 : (Jvm.Cond.code ({ cls := "HintRingModel", name := "hinted", desc := "(III)I" } : Jvm.MethodName) prog_3_method_7_code (9 : Nat) (Option.some Jvm.ClassFile.FieldType.int)) ∈ lw_all := lw_g (lw_at lw_m0 201 rfl) rfl
theorem q203 : (Jvm.Cond.constant "HintRingModel" (18 : Nat) (95232 : Int32)) ∈ lw_all := lw_g (lw_at lw_m0 202 rfl) rfl
theorem q204 : (Jvm.Cond.constant "HintRingModel" (19 : Nat) (261888 : Int32)) ∈ lw_all := lw_g (lw_at lw_m0 203 rfl) rfl
theorem q205 : (Jvm.Cond.constant "HintRingModel" (20 : Nat) (8380416 : Int32)) ∈ lw_all := lw_g (lw_at lw_m0 204 rfl) rfl
theorem q207 : (Jvm.Cond.instanceMethod ({ cls := "HintRingModel", name := "montgomery", desc := "(II)I" } : Jvm.MethodName)) ∈ lw_all := lw_g (lw_at lw_m0 206 rfl) rfl
theorem q208 : (Jvm.Cond.selects "HintRingModel" ({ cls := "HintRingModel", name := "montgomery", desc := "(II)I" } : Jvm.MethodName) ({ cls := "HintRingModel", name := "montgomery", desc := "(II)I" } : Jvm.MethodName)) ∈ lw_all := lw_g (lw_at lw_m0 207 rfl) rfl
theorem q209 : (Jvm.Cond.code ({ cls := "HintRingModel", name := "montgomery", desc := "(II)I" } : Jvm.MethodName) prog_3_method_8_code (7 : Nat) (Option.some Jvm.ClassFile.FieldType.int)) ∈ lw_all := lw_g (lw_at lw_m0 208 rfl) rfl
theorem q210 : (Jvm.Cond.constantLong "HintRingModel" (21 : Nat) (8265825 : Int64)) ∈ lw_all := lw_g (lw_at lw_m0 209 rfl) rfl
theorem q212 : (Jvm.Cond.instanceMethod ({ cls := "HintRingModel", name := "brought", desc := "(I)I" } : Jvm.MethodName)) ∈ lw_all := lw_g (lw_at lw_m0 211 rfl) rfl
theorem q213 : (Jvm.Cond.selects "HintRingModel" ({ cls := "HintRingModel", name := "brought", desc := "(I)I" } : Jvm.MethodName) ({ cls := "HintRingModel", name := "brought", desc := "(I)I" } : Jvm.MethodName)) ∈ lw_all := lw_g (lw_at lw_m0 212 rfl) rfl
theorem q214 : (Jvm.Cond.code ({ cls := "HintRingModel", name := "brought", desc := "(I)I" } : Jvm.MethodName) prog_3_method_9_code (3 : Nat) (Option.some Jvm.ClassFile.FieldType.int)) ∈ lw_all := lw_g (lw_at lw_m0 213 rfl) rfl
theorem q215 : (Jvm.Cond.constant "HintRingModel" (23 : Nat) (2143289343 : Int32)) ∈ lw_all := lw_g (lw_at lw_m0 214 rfl) rfl
theorem in_X1 : ∀ w ∈ wsX10, w ∈ lw_all := lw_in wsX10 [173] (by decide +kernel) (by decide +kernel)
end
section
theorem q1 : (Jvm.Cond.initialized "HintRingLaw") ∈ lw_all := lw_g (lw_at lw_m0 0 rfl) rfl
set_option maxRecDepth 100000
theorem q10 : (Jvm.Cond.classLink "HintRingLaw" (7 : Nat) "HintRing") ∈ lw_all := lw_g (lw_at lw_m0 9 rfl) rfl
theorem q12 : (Jvm.Cond.methodLink "HintRingLaw" (9 : Nat) ({ cls := "HintRing", name := "<init>", desc := "()V" } : Jvm.MethodName)) ∈ lw_all := lw_g (lw_at lw_m0 11 rfl) rfl
theorem q25 : (Jvm.Cond.methodLink "HintRingLaw" (13 : Nat) ({ cls := "HintRing", name := "put", desc := "(III)V" } : Jvm.MethodName)) ∈ lw_all := lw_g (lw_at lw_m0 24 rfl) rfl
theorem q34 : (Jvm.Cond.methodLink "HintRingLaw" (18 : Nat) ({ cls := "HintRing", name := "spread", desc := "(III)V" } : Jvm.MethodName)) ∈ lw_all := lw_g (lw_at lw_m0 33 rfl) rfl
theorem q38 : (Jvm.Cond.methodLink "HintRingLaw" (22 : Nat) ({ cls := "HintRing", name := "multiply", desc := "(III)V" } : Jvm.MethodName)) ∈ lw_all := lw_g (lw_at lw_m0 37 rfl) rfl
theorem q68 : (Jvm.Cond.methodLink "HintRingLaw" (26 : Nat) ({ cls := "HintRing", name := "add", desc := "(II)V" } : Jvm.MethodName)) ∈ lw_all := lw_g (lw_at lw_m0 67 rfl) rfl
theorem q72 : (Jvm.Cond.methodLink "HintRingLaw" (31 : Nat) ({ cls := "HintRing", name := "coefficient", desc := "(II)I" } : Jvm.MethodName)) ∈ lw_all := lw_g (lw_at lw_m0 71 rfl) rfl
theorem q76 : (Jvm.Cond.methodLink "HintRingLaw" (36 : Nat) ({ cls := "HintRing", name := "hinted", desc := "(III)I" } : Jvm.MethodName)) ∈ lw_all := lw_g (lw_at lw_m0 75 rfl) rfl
theorem q156 : (Jvm.Cond.methodLink "HintRingLaw" (41 : Nat) ({ cls := "HintRing", name := "montgomery", desc := "(II)I" } : Jvm.MethodName)) ∈ lw_all := lw_g (lw_at lw_m0 155 rfl) rfl
theorem q160 : (Jvm.Cond.methodLink "HintRingLaw" (45 : Nat) ({ cls := "HintRing", name := "brought", desc := "(I)I" } : Jvm.MethodName)) ∈ lw_all := lw_g (lw_at lw_m0 159 rfl) rfl
theorem q165 : (Jvm.Cond.classLink "HintRingLaw" (10 : Nat) "HintRingModel") ∈ lw_all := lw_g (lw_at lw_m0 164 rfl) rfl
theorem q167 : (Jvm.Cond.methodLink "HintRingLaw" (12 : Nat) ({ cls := "HintRingModel", name := "<init>", desc := "()V" } : Jvm.MethodName)) ∈ lw_all := lw_g (lw_at lw_m0 166 rfl) rfl
theorem q176 : (Jvm.Cond.methodLink "HintRingLaw" (17 : Nat) ({ cls := "HintRingModel", name := "put", desc := "(III)V" } : Jvm.MethodName)) ∈ lw_all := lw_g (lw_at lw_m0 175 rfl) rfl
theorem q182 : (Jvm.Cond.methodLink "HintRingLaw" (21 : Nat) ({ cls := "HintRingModel", name := "spread", desc := "(III)V" } : Jvm.MethodName)) ∈ lw_all := lw_g (lw_at lw_m0 181 rfl) rfl
theorem q186 : (Jvm.Cond.methodLink "HintRingLaw" (25 : Nat) ({ cls := "HintRingModel", name := "multiply", desc := "(III)V" } : Jvm.MethodName)) ∈ lw_all := lw_g (lw_at lw_m0 185 rfl) rfl
theorem q191 : (Jvm.Cond.methodLink "HintRingLaw" (30 : Nat) ({ cls := "HintRingModel", name := "add", desc := "(II)V" } : Jvm.MethodName)) ∈ lw_all := lw_g (lw_at lw_m0 190 rfl) rfl
theorem q195 : (Jvm.Cond.methodLink "HintRingLaw" (35 : Nat) ({ cls := "HintRingModel", name := "coefficient", desc := "(II)I" } : Jvm.MethodName)) ∈ lw_all := lw_g (lw_at lw_m0 194 rfl) rfl
theorem q199 : (Jvm.Cond.methodLink "HintRingLaw" (40 : Nat) ({ cls := "HintRingModel", name := "hinted", desc := "(III)I" } : Jvm.MethodName)) ∈ lw_all := lw_g (lw_at lw_m0 198 rfl) rfl
theorem q206 : (Jvm.Cond.methodLink "HintRingLaw" (44 : Nat) ({ cls := "HintRingModel", name := "montgomery", desc := "(II)I" } : Jvm.MethodName)) ∈ lw_all := lw_g (lw_at lw_m0 205 rfl) rfl
theorem q211 : (Jvm.Cond.methodLink "HintRingLaw" (49 : Nat) ({ cls := "HintRingModel", name := "brought", desc := "(I)I" } : Jvm.MethodName)) ∈ lw_all := lw_g (lw_at lw_m0 210 rfl) rfl

/-! the law's own entry -/
set_option maxRecDepth 100000
abbrev cL_law : ByteArray := code
def dkwL_law_15 : List UInt8 := [132, 3, 6, 167, 254, 161, 4, 172]
abbrev dktL_law_15 : List UInt8 := dkwL_law_15 ++ []
def dkwL_law_14 : List UInt8 := [42, 29, 4, 96, 46, 182, 0, 45, 44, 42, 29, 4, 96, 46, 182, 0, 49, 159, 0, 5, 3, 172]
abbrev dktL_law_14 : List UInt8 := dkwL_law_14 ++ dktL_law_15
def dkwL_law_13 : List UInt8 := [46, 182, 0, 41, 44, 42, 29, 4, 96, 46, 42, 29, 5, 96, 46, 182, 0, 44, 159, 0, 28, 3, 172, 43]
abbrev dktL_law_13 : List UInt8 := dkwL_law_13 ++ dktL_law_14
def dkwL_law_12 : List UInt8 := [46, 42, 29, 6, 96, 46, 182, 0, 40, 159, 0, 61, 3, 172, 43, 42, 29, 4, 96, 46, 42, 29, 5, 96]
abbrev dktL_law_12 : List UInt8 := dkwL_law_12 ++ dktL_law_13
def dkwL_law_11 : List UInt8 := [46, 42, 29, 5, 96, 46, 42, 29, 6, 96, 46, 182, 0, 36, 44, 42, 29, 4, 96, 46, 42, 29, 5, 96]
abbrev dktL_law_11 : List UInt8 := dkwL_law_11 ++ dktL_law_12
def dkwL_law_10 : List UInt8 := [44, 42, 29, 4, 96, 46, 42, 29, 5, 96, 46, 182, 0, 35, 159, 0, 104, 3, 172, 43, 42, 29, 4, 96]
abbrev dktL_law_10 : List UInt8 := dkwL_law_10 ++ dktL_law_11
def dkwL_law_9 : List UInt8 := [29, 5, 96, 46, 182, 0, 30, 167, 0, 135, 43, 42, 29, 4, 96, 46, 42, 29, 5, 96, 46, 182, 0, 31]
abbrev dktL_law_9 : List UInt8 := dkwL_law_9 ++ dktL_law_10
def dkwL_law_8 : List UInt8 := [167, 0, 166, 43, 42, 29, 4, 96, 46, 42, 29, 5, 96, 46, 182, 0, 26, 44, 42, 29, 4, 96, 46, 42]
abbrev dktL_law_8 : List UInt8 := dkwL_law_8 ++ dktL_law_9
def dkwL_law_7 : List UInt8 := [96, 46, 182, 0, 22, 44, 42, 29, 4, 96, 46, 42, 29, 5, 96, 46, 42, 29, 6, 96, 46, 182, 0, 25]
abbrev dktL_law_7 : List UInt8 := dkwL_law_7 ++ dktL_law_8
def dkwL_law_6 : List UInt8 := [29, 6, 96, 46, 182, 0, 21, 167, 0, 207, 43, 42, 29, 4, 96, 46, 42, 29, 5, 96, 46, 42, 29, 6]
abbrev dktL_law_6 : List UInt8 := dkwL_law_6 ++ dktL_law_7
def dkwL_law_5 : List UInt8 := [29, 5, 96, 46, 42, 29, 6, 96, 46, 182, 0, 18, 44, 42, 29, 4, 96, 46, 42, 29, 5, 96, 46, 42]
abbrev dktL_law_5 : List UInt8 := dkwL_law_5 ++ dktL_law_6
def dkwL_law_4 : List UInt8 := [46, 42, 29, 5, 96, 46, 42, 29, 6, 96, 46, 182, 0, 17, 167, 0, 248, 43, 42, 29, 4, 96, 46, 42]
abbrev dktL_law_4 : List UInt8 := dkwL_law_4 ++ dktL_law_5
def dkwL_law_3 : List UInt8 := [43, 42, 29, 4, 96, 46, 42, 29, 5, 96, 46, 42, 29, 6, 96, 46, 182, 0, 13, 44, 42, 29, 4, 96]
abbrev dktL_law_3 : List UInt8 := dkwL_law_3 ++ dktL_law_4
def dkwL_law_2 : List UInt8 := [170, 0, 0, 0, 0, 1, 77, 0, 0, 0, 0, 0, 0, 0, 7, 0, 0, 0, 47, 0, 0, 0, 88, 0, 0, 0, 129, 0, 0, 0, 170, 0, 0, 0, 201, 0, 0, 0, 234, 0, 0, 1, 21, 0, 0, 1, 54]
abbrev dktL_law_2 : List UInt8 := dkwL_law_2 ++ dktL_law_3
def dkwL_law_1 : List UInt8 := [163, 1, 92, 42, 29, 46, 16, 7, 126]
abbrev dktL_law_1 : List UInt8 := dkwL_law_1 ++ dktL_law_2
def dkwL_law_0 : List UInt8 := [187, 0, 7, 89, 183, 0, 9, 76, 187, 0, 10, 89, 183, 0, 12, 77, 3, 62, 29, 42, 190, 16, 6, 100]
abbrev dktL_law_0 : List UInt8 := dkwL_law_0 ++ dktL_law_1
theorem dksL_law_0 : cL_law.data.toList.drop 0 = dktL_law_0 := by decide +kernel
theorem dksL_law_1 : cL_law.data.toList.drop 24 = dktL_law_1 := dk_seg dksL_law_0 24 rfl rfl
theorem dksL_law_2 : cL_law.data.toList.drop 33 = dktL_law_2 := dk_seg dksL_law_1 9 rfl rfl
theorem dksL_law_3 : cL_law.data.toList.drop 80 = dktL_law_3 := dk_seg dksL_law_2 47 rfl rfl
theorem dksL_law_4 : cL_law.data.toList.drop 104 = dktL_law_4 := dk_seg dksL_law_3 24 rfl rfl
theorem dksL_law_5 : cL_law.data.toList.drop 128 = dktL_law_5 := dk_seg dksL_law_4 24 rfl rfl
theorem dksL_law_6 : cL_law.data.toList.drop 152 = dktL_law_6 := dk_seg dksL_law_5 24 rfl rfl
theorem dksL_law_7 : cL_law.data.toList.drop 176 = dktL_law_7 := dk_seg dksL_law_6 24 rfl rfl
theorem dksL_law_8 : cL_law.data.toList.drop 200 = dktL_law_8 := dk_seg dksL_law_7 24 rfl rfl
theorem dksL_law_9 : cL_law.data.toList.drop 224 = dktL_law_9 := dk_seg dksL_law_8 24 rfl rfl
theorem dksL_law_10 : cL_law.data.toList.drop 248 = dktL_law_10 := dk_seg dksL_law_9 24 rfl rfl
theorem dksL_law_11 : cL_law.data.toList.drop 272 = dktL_law_11 := dk_seg dksL_law_10 24 rfl rfl
theorem dksL_law_12 : cL_law.data.toList.drop 296 = dktL_law_12 := dk_seg dksL_law_11 24 rfl rfl
theorem dksL_law_13 : cL_law.data.toList.drop 320 = dktL_law_13 := dk_seg dksL_law_12 24 rfl rfl
theorem dksL_law_14 : cL_law.data.toList.drop 344 = dktL_law_14 := dk_seg dksL_law_13 24 rfl rfl
theorem dksL_law_15 : cL_law.data.toList.drop 366 = dktL_law_15 := dk_seg dksL_law_14 22 rfl rfl
theorem dL_law_0 : decode cL_law 0 = .ok (.new 7, 3) := dk_187 0 7 (dk_at dksL_law_0 0 rfl rfl)
theorem dL_law_3 : decode cL_law 3 = .ok (.dup, 1) := dk_89 (dk_at dksL_law_0 3 rfl rfl)
theorem dL_law_4 : decode cL_law 4 = .ok (.invokespecial 9, 3) := dk_183 0 9 (dk_at dksL_law_0 4 rfl rfl)
theorem dL_law_7 : decode cL_law 7 = .ok (.astore_n 1, 1) := dk_76 (dk_at dksL_law_0 7 rfl rfl)
theorem dL_law_8 : decode cL_law 8 = .ok (.new 10, 3) := dk_187 0 10 (dk_at dksL_law_0 8 rfl rfl)
theorem dL_law_11 : decode cL_law 11 = .ok (.dup, 1) := dk_89 (dk_at dksL_law_0 11 rfl rfl)
theorem dL_law_12 : decode cL_law 12 = .ok (.invokespecial 12, 3) := dk_183 0 12 (dk_at dksL_law_0 12 rfl rfl)
theorem dL_law_15 : decode cL_law 15 = .ok (.astore_n 2, 1) := dk_77 (dk_at dksL_law_0 15 rfl rfl)
theorem dL_law_16 : decode cL_law 16 = .ok (.iconst 0, 1) := dk_3 (dk_at dksL_law_0 16 rfl rfl)
theorem dL_law_17 : decode cL_law 17 = .ok (.istore_n 3, 1) := dk_62 (dk_at dksL_law_0 17 rfl rfl)
theorem dL_law_18 : decode cL_law 18 = .ok (.iload_n 3, 1) := dk_29 (dk_at dksL_law_0 18 rfl rfl)
theorem dL_law_19 : decode cL_law 19 = .ok (.aload_n 0, 1) := dk_42 (dk_at dksL_law_0 19 rfl rfl)
theorem dL_law_20 : decode cL_law 20 = .ok (.arraylength, 1) := dk_190 (dk_at dksL_law_0 20 rfl rfl)
theorem dL_law_21 : decode cL_law 21 = .ok (.bipush 6, 2) := dk_16 6 (dk_at dksL_law_0 21 rfl rfl)
theorem dL_law_23 : decode cL_law 23 = .ok (.isub, 1) := dk_100 (dk_at dksL_law_0 23 rfl rfl)
theorem dL_law_24 : decode cL_law 24 = .ok (.if_icmp .gt 348, 3) := dk_163 1 92 (dk_at dksL_law_1 0 rfl rfl)
theorem dL_law_27 : decode cL_law 27 = .ok (.aload_n 0, 1) := dk_42 (dk_at dksL_law_1 3 rfl rfl)
theorem dL_law_28 : decode cL_law 28 = .ok (.iload_n 3, 1) := dk_29 (dk_at dksL_law_1 4 rfl rfl)
theorem dL_law_29 : decode cL_law 29 = .ok (.iaload, 1) := dk_46 (dk_at dksL_law_1 5 rfl rfl)
theorem dL_law_30 : decode cL_law 30 = .ok (.bipush 7, 2) := dk_16 7 (dk_at dksL_law_1 6 rfl rfl)
theorem dL_law_32 : decode cL_law 32 = .ok (.iand, 1) := dk_126 (dk_at dksL_law_1 8 rfl rfl)
theorem dL_law_33 : decode cL_law 33 = .ok (.tableswitch 333 0 7 #[47, 88, 129, 170, 201, 234, 277, 310], 47) := by decide +kernel
theorem dL_law_80 : decode cL_law 80 = .ok (.aload_n 1, 1) := dk_43 (dk_at dksL_law_3 0 rfl rfl)
theorem dL_law_81 : decode cL_law 81 = .ok (.aload_n 0, 1) := dk_42 (dk_at dksL_law_3 1 rfl rfl)
theorem dL_law_82 : decode cL_law 82 = .ok (.iload_n 3, 1) := dk_29 (dk_at dksL_law_3 2 rfl rfl)
theorem dL_law_83 : decode cL_law 83 = .ok (.iconst 1, 1) := dk_4 (dk_at dksL_law_3 3 rfl rfl)
theorem dL_law_84 : decode cL_law 84 = .ok (.iadd, 1) := dk_96 (dk_at dksL_law_3 4 rfl rfl)
theorem dL_law_85 : decode cL_law 85 = .ok (.iaload, 1) := dk_46 (dk_at dksL_law_3 5 rfl rfl)
theorem dL_law_86 : decode cL_law 86 = .ok (.aload_n 0, 1) := dk_42 (dk_at dksL_law_3 6 rfl rfl)
theorem dL_law_87 : decode cL_law 87 = .ok (.iload_n 3, 1) := dk_29 (dk_at dksL_law_3 7 rfl rfl)
theorem dL_law_88 : decode cL_law 88 = .ok (.iconst 2, 1) := dk_5 (dk_at dksL_law_3 8 rfl rfl)
theorem dL_law_89 : decode cL_law 89 = .ok (.iadd, 1) := dk_96 (dk_at dksL_law_3 9 rfl rfl)
theorem dL_law_90 : decode cL_law 90 = .ok (.iaload, 1) := dk_46 (dk_at dksL_law_3 10 rfl rfl)
theorem dL_law_91 : decode cL_law 91 = .ok (.aload_n 0, 1) := dk_42 (dk_at dksL_law_3 11 rfl rfl)
theorem dL_law_92 : decode cL_law 92 = .ok (.iload_n 3, 1) := dk_29 (dk_at dksL_law_3 12 rfl rfl)
theorem dL_law_93 : decode cL_law 93 = .ok (.iconst 3, 1) := dk_6 (dk_at dksL_law_3 13 rfl rfl)
theorem dL_law_94 : decode cL_law 94 = .ok (.iadd, 1) := dk_96 (dk_at dksL_law_3 14 rfl rfl)
theorem dL_law_95 : decode cL_law 95 = .ok (.iaload, 1) := dk_46 (dk_at dksL_law_3 15 rfl rfl)
theorem dL_law_96 : decode cL_law 96 = .ok (.invokevirtual 13, 3) := dk_182 0 13 (dk_at dksL_law_3 16 rfl rfl)
theorem dL_law_99 : decode cL_law 99 = .ok (.aload_n 2, 1) := dk_44 (dk_at dksL_law_3 19 rfl rfl)
theorem dL_law_100 : decode cL_law 100 = .ok (.aload_n 0, 1) := dk_42 (dk_at dksL_law_3 20 rfl rfl)
theorem dL_law_101 : decode cL_law 101 = .ok (.iload_n 3, 1) := dk_29 (dk_at dksL_law_3 21 rfl rfl)
theorem dL_law_102 : decode cL_law 102 = .ok (.iconst 1, 1) := dk_4 (dk_at dksL_law_3 22 rfl rfl)
theorem dL_law_103 : decode cL_law 103 = .ok (.iadd, 1) := dk_96 (dk_at dksL_law_3 23 rfl rfl)
theorem dL_law_104 : decode cL_law 104 = .ok (.iaload, 1) := dk_46 (dk_at dksL_law_4 0 rfl rfl)
theorem dL_law_105 : decode cL_law 105 = .ok (.aload_n 0, 1) := dk_42 (dk_at dksL_law_4 1 rfl rfl)
theorem dL_law_106 : decode cL_law 106 = .ok (.iload_n 3, 1) := dk_29 (dk_at dksL_law_4 2 rfl rfl)
theorem dL_law_107 : decode cL_law 107 = .ok (.iconst 2, 1) := dk_5 (dk_at dksL_law_4 3 rfl rfl)
theorem dL_law_108 : decode cL_law 108 = .ok (.iadd, 1) := dk_96 (dk_at dksL_law_4 4 rfl rfl)
theorem dL_law_109 : decode cL_law 109 = .ok (.iaload, 1) := dk_46 (dk_at dksL_law_4 5 rfl rfl)
theorem dL_law_110 : decode cL_law 110 = .ok (.aload_n 0, 1) := dk_42 (dk_at dksL_law_4 6 rfl rfl)
theorem dL_law_111 : decode cL_law 111 = .ok (.iload_n 3, 1) := dk_29 (dk_at dksL_law_4 7 rfl rfl)
theorem dL_law_112 : decode cL_law 112 = .ok (.iconst 3, 1) := dk_6 (dk_at dksL_law_4 8 rfl rfl)
theorem dL_law_113 : decode cL_law 113 = .ok (.iadd, 1) := dk_96 (dk_at dksL_law_4 9 rfl rfl)
theorem dL_law_114 : decode cL_law 114 = .ok (.iaload, 1) := dk_46 (dk_at dksL_law_4 10 rfl rfl)
theorem dL_law_115 : decode cL_law 115 = .ok (.invokevirtual 17, 3) := dk_182 0 17 (dk_at dksL_law_4 11 rfl rfl)
theorem dL_law_118 : decode cL_law 118 = .ok (.goto 248, 3) := dk_167 0 248 (dk_at dksL_law_4 14 rfl rfl)
theorem dL_law_121 : decode cL_law 121 = .ok (.aload_n 1, 1) := dk_43 (dk_at dksL_law_4 17 rfl rfl)
theorem dL_law_122 : decode cL_law 122 = .ok (.aload_n 0, 1) := dk_42 (dk_at dksL_law_4 18 rfl rfl)
theorem dL_law_123 : decode cL_law 123 = .ok (.iload_n 3, 1) := dk_29 (dk_at dksL_law_4 19 rfl rfl)
theorem dL_law_124 : decode cL_law 124 = .ok (.iconst 1, 1) := dk_4 (dk_at dksL_law_4 20 rfl rfl)
theorem dL_law_125 : decode cL_law 125 = .ok (.iadd, 1) := dk_96 (dk_at dksL_law_4 21 rfl rfl)
theorem dL_law_126 : decode cL_law 126 = .ok (.iaload, 1) := dk_46 (dk_at dksL_law_4 22 rfl rfl)
theorem dL_law_127 : decode cL_law 127 = .ok (.aload_n 0, 1) := dk_42 (dk_at dksL_law_4 23 rfl rfl)
theorem dL_law_128 : decode cL_law 128 = .ok (.iload_n 3, 1) := dk_29 (dk_at dksL_law_5 0 rfl rfl)
theorem dL_law_129 : decode cL_law 129 = .ok (.iconst 2, 1) := dk_5 (dk_at dksL_law_5 1 rfl rfl)
theorem dL_law_130 : decode cL_law 130 = .ok (.iadd, 1) := dk_96 (dk_at dksL_law_5 2 rfl rfl)
theorem dL_law_131 : decode cL_law 131 = .ok (.iaload, 1) := dk_46 (dk_at dksL_law_5 3 rfl rfl)
theorem dL_law_132 : decode cL_law 132 = .ok (.aload_n 0, 1) := dk_42 (dk_at dksL_law_5 4 rfl rfl)
theorem dL_law_133 : decode cL_law 133 = .ok (.iload_n 3, 1) := dk_29 (dk_at dksL_law_5 5 rfl rfl)
theorem dL_law_134 : decode cL_law 134 = .ok (.iconst 3, 1) := dk_6 (dk_at dksL_law_5 6 rfl rfl)
theorem dL_law_135 : decode cL_law 135 = .ok (.iadd, 1) := dk_96 (dk_at dksL_law_5 7 rfl rfl)
theorem dL_law_136 : decode cL_law 136 = .ok (.iaload, 1) := dk_46 (dk_at dksL_law_5 8 rfl rfl)
theorem dL_law_137 : decode cL_law 137 = .ok (.invokevirtual 18, 3) := dk_182 0 18 (dk_at dksL_law_5 9 rfl rfl)
theorem dL_law_140 : decode cL_law 140 = .ok (.aload_n 2, 1) := dk_44 (dk_at dksL_law_5 12 rfl rfl)
theorem dL_law_141 : decode cL_law 141 = .ok (.aload_n 0, 1) := dk_42 (dk_at dksL_law_5 13 rfl rfl)
theorem dL_law_142 : decode cL_law 142 = .ok (.iload_n 3, 1) := dk_29 (dk_at dksL_law_5 14 rfl rfl)
theorem dL_law_143 : decode cL_law 143 = .ok (.iconst 1, 1) := dk_4 (dk_at dksL_law_5 15 rfl rfl)
theorem dL_law_144 : decode cL_law 144 = .ok (.iadd, 1) := dk_96 (dk_at dksL_law_5 16 rfl rfl)
theorem dL_law_145 : decode cL_law 145 = .ok (.iaload, 1) := dk_46 (dk_at dksL_law_5 17 rfl rfl)
theorem dL_law_146 : decode cL_law 146 = .ok (.aload_n 0, 1) := dk_42 (dk_at dksL_law_5 18 rfl rfl)
theorem dL_law_147 : decode cL_law 147 = .ok (.iload_n 3, 1) := dk_29 (dk_at dksL_law_5 19 rfl rfl)
theorem dL_law_148 : decode cL_law 148 = .ok (.iconst 2, 1) := dk_5 (dk_at dksL_law_5 20 rfl rfl)
theorem dL_law_149 : decode cL_law 149 = .ok (.iadd, 1) := dk_96 (dk_at dksL_law_5 21 rfl rfl)
theorem dL_law_150 : decode cL_law 150 = .ok (.iaload, 1) := dk_46 (dk_at dksL_law_5 22 rfl rfl)
theorem dL_law_151 : decode cL_law 151 = .ok (.aload_n 0, 1) := dk_42 (dk_at dksL_law_5 23 rfl rfl)
theorem dL_law_152 : decode cL_law 152 = .ok (.iload_n 3, 1) := dk_29 (dk_at dksL_law_6 0 rfl rfl)
theorem dL_law_153 : decode cL_law 153 = .ok (.iconst 3, 1) := dk_6 (dk_at dksL_law_6 1 rfl rfl)
theorem dL_law_154 : decode cL_law 154 = .ok (.iadd, 1) := dk_96 (dk_at dksL_law_6 2 rfl rfl)
theorem dL_law_155 : decode cL_law 155 = .ok (.iaload, 1) := dk_46 (dk_at dksL_law_6 3 rfl rfl)
theorem dL_law_156 : decode cL_law 156 = .ok (.invokevirtual 21, 3) := dk_182 0 21 (dk_at dksL_law_6 4 rfl rfl)
theorem dL_law_159 : decode cL_law 159 = .ok (.goto 207, 3) := dk_167 0 207 (dk_at dksL_law_6 7 rfl rfl)
theorem dL_law_162 : decode cL_law 162 = .ok (.aload_n 1, 1) := dk_43 (dk_at dksL_law_6 10 rfl rfl)
theorem dL_law_163 : decode cL_law 163 = .ok (.aload_n 0, 1) := dk_42 (dk_at dksL_law_6 11 rfl rfl)
theorem dL_law_164 : decode cL_law 164 = .ok (.iload_n 3, 1) := dk_29 (dk_at dksL_law_6 12 rfl rfl)
theorem dL_law_165 : decode cL_law 165 = .ok (.iconst 1, 1) := dk_4 (dk_at dksL_law_6 13 rfl rfl)
theorem dL_law_166 : decode cL_law 166 = .ok (.iadd, 1) := dk_96 (dk_at dksL_law_6 14 rfl rfl)
theorem dL_law_167 : decode cL_law 167 = .ok (.iaload, 1) := dk_46 (dk_at dksL_law_6 15 rfl rfl)
theorem dL_law_168 : decode cL_law 168 = .ok (.aload_n 0, 1) := dk_42 (dk_at dksL_law_6 16 rfl rfl)
theorem dL_law_169 : decode cL_law 169 = .ok (.iload_n 3, 1) := dk_29 (dk_at dksL_law_6 17 rfl rfl)
theorem dL_law_170 : decode cL_law 170 = .ok (.iconst 2, 1) := dk_5 (dk_at dksL_law_6 18 rfl rfl)
theorem dL_law_171 : decode cL_law 171 = .ok (.iadd, 1) := dk_96 (dk_at dksL_law_6 19 rfl rfl)
theorem dL_law_172 : decode cL_law 172 = .ok (.iaload, 1) := dk_46 (dk_at dksL_law_6 20 rfl rfl)
theorem dL_law_173 : decode cL_law 173 = .ok (.aload_n 0, 1) := dk_42 (dk_at dksL_law_6 21 rfl rfl)
theorem dL_law_174 : decode cL_law 174 = .ok (.iload_n 3, 1) := dk_29 (dk_at dksL_law_6 22 rfl rfl)
theorem dL_law_175 : decode cL_law 175 = .ok (.iconst 3, 1) := dk_6 (dk_at dksL_law_6 23 rfl rfl)
theorem dL_law_176 : decode cL_law 176 = .ok (.iadd, 1) := dk_96 (dk_at dksL_law_7 0 rfl rfl)
theorem dL_law_177 : decode cL_law 177 = .ok (.iaload, 1) := dk_46 (dk_at dksL_law_7 1 rfl rfl)
theorem dL_law_178 : decode cL_law 178 = .ok (.invokevirtual 22, 3) := dk_182 0 22 (dk_at dksL_law_7 2 rfl rfl)
theorem dL_law_181 : decode cL_law 181 = .ok (.aload_n 2, 1) := dk_44 (dk_at dksL_law_7 5 rfl rfl)
theorem dL_law_182 : decode cL_law 182 = .ok (.aload_n 0, 1) := dk_42 (dk_at dksL_law_7 6 rfl rfl)
theorem dL_law_183 : decode cL_law 183 = .ok (.iload_n 3, 1) := dk_29 (dk_at dksL_law_7 7 rfl rfl)
theorem dL_law_184 : decode cL_law 184 = .ok (.iconst 1, 1) := dk_4 (dk_at dksL_law_7 8 rfl rfl)
theorem dL_law_185 : decode cL_law 185 = .ok (.iadd, 1) := dk_96 (dk_at dksL_law_7 9 rfl rfl)
theorem dL_law_186 : decode cL_law 186 = .ok (.iaload, 1) := dk_46 (dk_at dksL_law_7 10 rfl rfl)
theorem dL_law_187 : decode cL_law 187 = .ok (.aload_n 0, 1) := dk_42 (dk_at dksL_law_7 11 rfl rfl)
theorem dL_law_188 : decode cL_law 188 = .ok (.iload_n 3, 1) := dk_29 (dk_at dksL_law_7 12 rfl rfl)
theorem dL_law_189 : decode cL_law 189 = .ok (.iconst 2, 1) := dk_5 (dk_at dksL_law_7 13 rfl rfl)
theorem dL_law_190 : decode cL_law 190 = .ok (.iadd, 1) := dk_96 (dk_at dksL_law_7 14 rfl rfl)
theorem dL_law_191 : decode cL_law 191 = .ok (.iaload, 1) := dk_46 (dk_at dksL_law_7 15 rfl rfl)
theorem dL_law_192 : decode cL_law 192 = .ok (.aload_n 0, 1) := dk_42 (dk_at dksL_law_7 16 rfl rfl)
theorem dL_law_193 : decode cL_law 193 = .ok (.iload_n 3, 1) := dk_29 (dk_at dksL_law_7 17 rfl rfl)
theorem dL_law_194 : decode cL_law 194 = .ok (.iconst 3, 1) := dk_6 (dk_at dksL_law_7 18 rfl rfl)
theorem dL_law_195 : decode cL_law 195 = .ok (.iadd, 1) := dk_96 (dk_at dksL_law_7 19 rfl rfl)
theorem dL_law_196 : decode cL_law 196 = .ok (.iaload, 1) := dk_46 (dk_at dksL_law_7 20 rfl rfl)
theorem dL_law_197 : decode cL_law 197 = .ok (.invokevirtual 25, 3) := dk_182 0 25 (dk_at dksL_law_7 21 rfl rfl)
theorem dL_law_200 : decode cL_law 200 = .ok (.goto 166, 3) := dk_167 0 166 (dk_at dksL_law_8 0 rfl rfl)
theorem dL_law_203 : decode cL_law 203 = .ok (.aload_n 1, 1) := dk_43 (dk_at dksL_law_8 3 rfl rfl)
theorem dL_law_204 : decode cL_law 204 = .ok (.aload_n 0, 1) := dk_42 (dk_at dksL_law_8 4 rfl rfl)
theorem dL_law_205 : decode cL_law 205 = .ok (.iload_n 3, 1) := dk_29 (dk_at dksL_law_8 5 rfl rfl)
theorem dL_law_206 : decode cL_law 206 = .ok (.iconst 1, 1) := dk_4 (dk_at dksL_law_8 6 rfl rfl)
theorem dL_law_207 : decode cL_law 207 = .ok (.iadd, 1) := dk_96 (dk_at dksL_law_8 7 rfl rfl)
theorem dL_law_208 : decode cL_law 208 = .ok (.iaload, 1) := dk_46 (dk_at dksL_law_8 8 rfl rfl)
theorem dL_law_209 : decode cL_law 209 = .ok (.aload_n 0, 1) := dk_42 (dk_at dksL_law_8 9 rfl rfl)
theorem dL_law_210 : decode cL_law 210 = .ok (.iload_n 3, 1) := dk_29 (dk_at dksL_law_8 10 rfl rfl)
theorem dL_law_211 : decode cL_law 211 = .ok (.iconst 2, 1) := dk_5 (dk_at dksL_law_8 11 rfl rfl)
theorem dL_law_212 : decode cL_law 212 = .ok (.iadd, 1) := dk_96 (dk_at dksL_law_8 12 rfl rfl)
theorem dL_law_213 : decode cL_law 213 = .ok (.iaload, 1) := dk_46 (dk_at dksL_law_8 13 rfl rfl)
theorem dL_law_214 : decode cL_law 214 = .ok (.invokevirtual 26, 3) := dk_182 0 26 (dk_at dksL_law_8 14 rfl rfl)
theorem dL_law_217 : decode cL_law 217 = .ok (.aload_n 2, 1) := dk_44 (dk_at dksL_law_8 17 rfl rfl)
theorem dL_law_218 : decode cL_law 218 = .ok (.aload_n 0, 1) := dk_42 (dk_at dksL_law_8 18 rfl rfl)
theorem dL_law_219 : decode cL_law 219 = .ok (.iload_n 3, 1) := dk_29 (dk_at dksL_law_8 19 rfl rfl)
theorem dL_law_220 : decode cL_law 220 = .ok (.iconst 1, 1) := dk_4 (dk_at dksL_law_8 20 rfl rfl)
theorem dL_law_221 : decode cL_law 221 = .ok (.iadd, 1) := dk_96 (dk_at dksL_law_8 21 rfl rfl)
theorem dL_law_222 : decode cL_law 222 = .ok (.iaload, 1) := dk_46 (dk_at dksL_law_8 22 rfl rfl)
theorem dL_law_223 : decode cL_law 223 = .ok (.aload_n 0, 1) := dk_42 (dk_at dksL_law_8 23 rfl rfl)
theorem dL_law_224 : decode cL_law 224 = .ok (.iload_n 3, 1) := dk_29 (dk_at dksL_law_9 0 rfl rfl)
theorem dL_law_225 : decode cL_law 225 = .ok (.iconst 2, 1) := dk_5 (dk_at dksL_law_9 1 rfl rfl)
theorem dL_law_226 : decode cL_law 226 = .ok (.iadd, 1) := dk_96 (dk_at dksL_law_9 2 rfl rfl)
theorem dL_law_227 : decode cL_law 227 = .ok (.iaload, 1) := dk_46 (dk_at dksL_law_9 3 rfl rfl)
theorem dL_law_228 : decode cL_law 228 = .ok (.invokevirtual 30, 3) := dk_182 0 30 (dk_at dksL_law_9 4 rfl rfl)
theorem dL_law_231 : decode cL_law 231 = .ok (.goto 135, 3) := dk_167 0 135 (dk_at dksL_law_9 7 rfl rfl)
theorem dL_law_234 : decode cL_law 234 = .ok (.aload_n 1, 1) := dk_43 (dk_at dksL_law_9 10 rfl rfl)
theorem dL_law_235 : decode cL_law 235 = .ok (.aload_n 0, 1) := dk_42 (dk_at dksL_law_9 11 rfl rfl)
theorem dL_law_236 : decode cL_law 236 = .ok (.iload_n 3, 1) := dk_29 (dk_at dksL_law_9 12 rfl rfl)
theorem dL_law_237 : decode cL_law 237 = .ok (.iconst 1, 1) := dk_4 (dk_at dksL_law_9 13 rfl rfl)
theorem dL_law_238 : decode cL_law 238 = .ok (.iadd, 1) := dk_96 (dk_at dksL_law_9 14 rfl rfl)
theorem dL_law_239 : decode cL_law 239 = .ok (.iaload, 1) := dk_46 (dk_at dksL_law_9 15 rfl rfl)
theorem dL_law_240 : decode cL_law 240 = .ok (.aload_n 0, 1) := dk_42 (dk_at dksL_law_9 16 rfl rfl)
theorem dL_law_241 : decode cL_law 241 = .ok (.iload_n 3, 1) := dk_29 (dk_at dksL_law_9 17 rfl rfl)
theorem dL_law_242 : decode cL_law 242 = .ok (.iconst 2, 1) := dk_5 (dk_at dksL_law_9 18 rfl rfl)
theorem dL_law_243 : decode cL_law 243 = .ok (.iadd, 1) := dk_96 (dk_at dksL_law_9 19 rfl rfl)
theorem dL_law_244 : decode cL_law 244 = .ok (.iaload, 1) := dk_46 (dk_at dksL_law_9 20 rfl rfl)
theorem dL_law_245 : decode cL_law 245 = .ok (.invokevirtual 31, 3) := dk_182 0 31 (dk_at dksL_law_9 21 rfl rfl)
theorem dL_law_248 : decode cL_law 248 = .ok (.aload_n 2, 1) := dk_44 (dk_at dksL_law_10 0 rfl rfl)
theorem dL_law_249 : decode cL_law 249 = .ok (.aload_n 0, 1) := dk_42 (dk_at dksL_law_10 1 rfl rfl)
theorem dL_law_250 : decode cL_law 250 = .ok (.iload_n 3, 1) := dk_29 (dk_at dksL_law_10 2 rfl rfl)
theorem dL_law_251 : decode cL_law 251 = .ok (.iconst 1, 1) := dk_4 (dk_at dksL_law_10 3 rfl rfl)
theorem dL_law_252 : decode cL_law 252 = .ok (.iadd, 1) := dk_96 (dk_at dksL_law_10 4 rfl rfl)
theorem dL_law_253 : decode cL_law 253 = .ok (.iaload, 1) := dk_46 (dk_at dksL_law_10 5 rfl rfl)
theorem dL_law_254 : decode cL_law 254 = .ok (.aload_n 0, 1) := dk_42 (dk_at dksL_law_10 6 rfl rfl)
theorem dL_law_255 : decode cL_law 255 = .ok (.iload_n 3, 1) := dk_29 (dk_at dksL_law_10 7 rfl rfl)
theorem dL_law_256 : decode cL_law 256 = .ok (.iconst 2, 1) := dk_5 (dk_at dksL_law_10 8 rfl rfl)
theorem dL_law_257 : decode cL_law 257 = .ok (.iadd, 1) := dk_96 (dk_at dksL_law_10 9 rfl rfl)
theorem dL_law_258 : decode cL_law 258 = .ok (.iaload, 1) := dk_46 (dk_at dksL_law_10 10 rfl rfl)
theorem dL_law_259 : decode cL_law 259 = .ok (.invokevirtual 35, 3) := dk_182 0 35 (dk_at dksL_law_10 11 rfl rfl)
theorem dL_law_262 : decode cL_law 262 = .ok (.if_icmp .eq 104, 3) := dk_159 0 104 (dk_at dksL_law_10 14 rfl rfl)
theorem dL_law_265 : decode cL_law 265 = .ok (.iconst 0, 1) := dk_3 (dk_at dksL_law_10 17 rfl rfl)
theorem dL_law_266 : decode cL_law 266 = .ok (.ireturn, 1) := dk_172 (dk_at dksL_law_10 18 rfl rfl)
theorem dL_law_267 : decode cL_law 267 = .ok (.aload_n 1, 1) := dk_43 (dk_at dksL_law_10 19 rfl rfl)
theorem dL_law_268 : decode cL_law 268 = .ok (.aload_n 0, 1) := dk_42 (dk_at dksL_law_10 20 rfl rfl)
theorem dL_law_269 : decode cL_law 269 = .ok (.iload_n 3, 1) := dk_29 (dk_at dksL_law_10 21 rfl rfl)
theorem dL_law_270 : decode cL_law 270 = .ok (.iconst 1, 1) := dk_4 (dk_at dksL_law_10 22 rfl rfl)
theorem dL_law_271 : decode cL_law 271 = .ok (.iadd, 1) := dk_96 (dk_at dksL_law_10 23 rfl rfl)
theorem dL_law_272 : decode cL_law 272 = .ok (.iaload, 1) := dk_46 (dk_at dksL_law_11 0 rfl rfl)
theorem dL_law_273 : decode cL_law 273 = .ok (.aload_n 0, 1) := dk_42 (dk_at dksL_law_11 1 rfl rfl)
theorem dL_law_274 : decode cL_law 274 = .ok (.iload_n 3, 1) := dk_29 (dk_at dksL_law_11 2 rfl rfl)
theorem dL_law_275 : decode cL_law 275 = .ok (.iconst 2, 1) := dk_5 (dk_at dksL_law_11 3 rfl rfl)
theorem dL_law_276 : decode cL_law 276 = .ok (.iadd, 1) := dk_96 (dk_at dksL_law_11 4 rfl rfl)
theorem dL_law_277 : decode cL_law 277 = .ok (.iaload, 1) := dk_46 (dk_at dksL_law_11 5 rfl rfl)
theorem dL_law_278 : decode cL_law 278 = .ok (.aload_n 0, 1) := dk_42 (dk_at dksL_law_11 6 rfl rfl)
theorem dL_law_279 : decode cL_law 279 = .ok (.iload_n 3, 1) := dk_29 (dk_at dksL_law_11 7 rfl rfl)
theorem dL_law_280 : decode cL_law 280 = .ok (.iconst 3, 1) := dk_6 (dk_at dksL_law_11 8 rfl rfl)
theorem dL_law_281 : decode cL_law 281 = .ok (.iadd, 1) := dk_96 (dk_at dksL_law_11 9 rfl rfl)
theorem dL_law_282 : decode cL_law 282 = .ok (.iaload, 1) := dk_46 (dk_at dksL_law_11 10 rfl rfl)
theorem dL_law_283 : decode cL_law 283 = .ok (.invokevirtual 36, 3) := dk_182 0 36 (dk_at dksL_law_11 11 rfl rfl)
theorem dL_law_286 : decode cL_law 286 = .ok (.aload_n 2, 1) := dk_44 (dk_at dksL_law_11 14 rfl rfl)
theorem dL_law_287 : decode cL_law 287 = .ok (.aload_n 0, 1) := dk_42 (dk_at dksL_law_11 15 rfl rfl)
theorem dL_law_288 : decode cL_law 288 = .ok (.iload_n 3, 1) := dk_29 (dk_at dksL_law_11 16 rfl rfl)
theorem dL_law_289 : decode cL_law 289 = .ok (.iconst 1, 1) := dk_4 (dk_at dksL_law_11 17 rfl rfl)
theorem dL_law_290 : decode cL_law 290 = .ok (.iadd, 1) := dk_96 (dk_at dksL_law_11 18 rfl rfl)
theorem dL_law_291 : decode cL_law 291 = .ok (.iaload, 1) := dk_46 (dk_at dksL_law_11 19 rfl rfl)
theorem dL_law_292 : decode cL_law 292 = .ok (.aload_n 0, 1) := dk_42 (dk_at dksL_law_11 20 rfl rfl)
theorem dL_law_293 : decode cL_law 293 = .ok (.iload_n 3, 1) := dk_29 (dk_at dksL_law_11 21 rfl rfl)
theorem dL_law_294 : decode cL_law 294 = .ok (.iconst 2, 1) := dk_5 (dk_at dksL_law_11 22 rfl rfl)
theorem dL_law_295 : decode cL_law 295 = .ok (.iadd, 1) := dk_96 (dk_at dksL_law_11 23 rfl rfl)
theorem dL_law_296 : decode cL_law 296 = .ok (.iaload, 1) := dk_46 (dk_at dksL_law_12 0 rfl rfl)
theorem dL_law_297 : decode cL_law 297 = .ok (.aload_n 0, 1) := dk_42 (dk_at dksL_law_12 1 rfl rfl)
theorem dL_law_298 : decode cL_law 298 = .ok (.iload_n 3, 1) := dk_29 (dk_at dksL_law_12 2 rfl rfl)
theorem dL_law_299 : decode cL_law 299 = .ok (.iconst 3, 1) := dk_6 (dk_at dksL_law_12 3 rfl rfl)
theorem dL_law_300 : decode cL_law 300 = .ok (.iadd, 1) := dk_96 (dk_at dksL_law_12 4 rfl rfl)
theorem dL_law_301 : decode cL_law 301 = .ok (.iaload, 1) := dk_46 (dk_at dksL_law_12 5 rfl rfl)
theorem dL_law_302 : decode cL_law 302 = .ok (.invokevirtual 40, 3) := dk_182 0 40 (dk_at dksL_law_12 6 rfl rfl)
theorem dL_law_305 : decode cL_law 305 = .ok (.if_icmp .eq 61, 3) := dk_159 0 61 (dk_at dksL_law_12 9 rfl rfl)
theorem dL_law_308 : decode cL_law 308 = .ok (.iconst 0, 1) := dk_3 (dk_at dksL_law_12 12 rfl rfl)
theorem dL_law_309 : decode cL_law 309 = .ok (.ireturn, 1) := dk_172 (dk_at dksL_law_12 13 rfl rfl)
theorem dL_law_310 : decode cL_law 310 = .ok (.aload_n 1, 1) := dk_43 (dk_at dksL_law_12 14 rfl rfl)
theorem dL_law_311 : decode cL_law 311 = .ok (.aload_n 0, 1) := dk_42 (dk_at dksL_law_12 15 rfl rfl)
theorem dL_law_312 : decode cL_law 312 = .ok (.iload_n 3, 1) := dk_29 (dk_at dksL_law_12 16 rfl rfl)
theorem dL_law_313 : decode cL_law 313 = .ok (.iconst 1, 1) := dk_4 (dk_at dksL_law_12 17 rfl rfl)
theorem dL_law_314 : decode cL_law 314 = .ok (.iadd, 1) := dk_96 (dk_at dksL_law_12 18 rfl rfl)
theorem dL_law_315 : decode cL_law 315 = .ok (.iaload, 1) := dk_46 (dk_at dksL_law_12 19 rfl rfl)
theorem dL_law_316 : decode cL_law 316 = .ok (.aload_n 0, 1) := dk_42 (dk_at dksL_law_12 20 rfl rfl)
theorem dL_law_317 : decode cL_law 317 = .ok (.iload_n 3, 1) := dk_29 (dk_at dksL_law_12 21 rfl rfl)
theorem dL_law_318 : decode cL_law 318 = .ok (.iconst 2, 1) := dk_5 (dk_at dksL_law_12 22 rfl rfl)
theorem dL_law_319 : decode cL_law 319 = .ok (.iadd, 1) := dk_96 (dk_at dksL_law_12 23 rfl rfl)
theorem dL_law_320 : decode cL_law 320 = .ok (.iaload, 1) := dk_46 (dk_at dksL_law_13 0 rfl rfl)
theorem dL_law_321 : decode cL_law 321 = .ok (.invokevirtual 41, 3) := dk_182 0 41 (dk_at dksL_law_13 1 rfl rfl)
theorem dL_law_324 : decode cL_law 324 = .ok (.aload_n 2, 1) := dk_44 (dk_at dksL_law_13 4 rfl rfl)
theorem dL_law_325 : decode cL_law 325 = .ok (.aload_n 0, 1) := dk_42 (dk_at dksL_law_13 5 rfl rfl)
theorem dL_law_326 : decode cL_law 326 = .ok (.iload_n 3, 1) := dk_29 (dk_at dksL_law_13 6 rfl rfl)
theorem dL_law_327 : decode cL_law 327 = .ok (.iconst 1, 1) := dk_4 (dk_at dksL_law_13 7 rfl rfl)
theorem dL_law_328 : decode cL_law 328 = .ok (.iadd, 1) := dk_96 (dk_at dksL_law_13 8 rfl rfl)
theorem dL_law_329 : decode cL_law 329 = .ok (.iaload, 1) := dk_46 (dk_at dksL_law_13 9 rfl rfl)
theorem dL_law_330 : decode cL_law 330 = .ok (.aload_n 0, 1) := dk_42 (dk_at dksL_law_13 10 rfl rfl)
theorem dL_law_331 : decode cL_law 331 = .ok (.iload_n 3, 1) := dk_29 (dk_at dksL_law_13 11 rfl rfl)
theorem dL_law_332 : decode cL_law 332 = .ok (.iconst 2, 1) := dk_5 (dk_at dksL_law_13 12 rfl rfl)
theorem dL_law_333 : decode cL_law 333 = .ok (.iadd, 1) := dk_96 (dk_at dksL_law_13 13 rfl rfl)
theorem dL_law_334 : decode cL_law 334 = .ok (.iaload, 1) := dk_46 (dk_at dksL_law_13 14 rfl rfl)
theorem dL_law_335 : decode cL_law 335 = .ok (.invokevirtual 44, 3) := dk_182 0 44 (dk_at dksL_law_13 15 rfl rfl)
theorem dL_law_338 : decode cL_law 338 = .ok (.if_icmp .eq 28, 3) := dk_159 0 28 (dk_at dksL_law_13 18 rfl rfl)
theorem dL_law_341 : decode cL_law 341 = .ok (.iconst 0, 1) := dk_3 (dk_at dksL_law_13 21 rfl rfl)
theorem dL_law_342 : decode cL_law 342 = .ok (.ireturn, 1) := dk_172 (dk_at dksL_law_13 22 rfl rfl)
theorem dL_law_343 : decode cL_law 343 = .ok (.aload_n 1, 1) := dk_43 (dk_at dksL_law_13 23 rfl rfl)
theorem dL_law_344 : decode cL_law 344 = .ok (.aload_n 0, 1) := dk_42 (dk_at dksL_law_14 0 rfl rfl)
theorem dL_law_345 : decode cL_law 345 = .ok (.iload_n 3, 1) := dk_29 (dk_at dksL_law_14 1 rfl rfl)
theorem dL_law_346 : decode cL_law 346 = .ok (.iconst 1, 1) := dk_4 (dk_at dksL_law_14 2 rfl rfl)
theorem dL_law_347 : decode cL_law 347 = .ok (.iadd, 1) := dk_96 (dk_at dksL_law_14 3 rfl rfl)
theorem dL_law_348 : decode cL_law 348 = .ok (.iaload, 1) := dk_46 (dk_at dksL_law_14 4 rfl rfl)
theorem dL_law_349 : decode cL_law 349 = .ok (.invokevirtual 45, 3) := dk_182 0 45 (dk_at dksL_law_14 5 rfl rfl)
theorem dL_law_352 : decode cL_law 352 = .ok (.aload_n 2, 1) := dk_44 (dk_at dksL_law_14 8 rfl rfl)
theorem dL_law_353 : decode cL_law 353 = .ok (.aload_n 0, 1) := dk_42 (dk_at dksL_law_14 9 rfl rfl)
theorem dL_law_354 : decode cL_law 354 = .ok (.iload_n 3, 1) := dk_29 (dk_at dksL_law_14 10 rfl rfl)
theorem dL_law_355 : decode cL_law 355 = .ok (.iconst 1, 1) := dk_4 (dk_at dksL_law_14 11 rfl rfl)
theorem dL_law_356 : decode cL_law 356 = .ok (.iadd, 1) := dk_96 (dk_at dksL_law_14 12 rfl rfl)
theorem dL_law_357 : decode cL_law 357 = .ok (.iaload, 1) := dk_46 (dk_at dksL_law_14 13 rfl rfl)
theorem dL_law_358 : decode cL_law 358 = .ok (.invokevirtual 49, 3) := dk_182 0 49 (dk_at dksL_law_14 14 rfl rfl)
theorem dL_law_361 : decode cL_law 361 = .ok (.if_icmp .eq 5, 3) := dk_159 0 5 (dk_at dksL_law_14 17 rfl rfl)
theorem dL_law_364 : decode cL_law 364 = .ok (.iconst 0, 1) := dk_3 (dk_at dksL_law_14 20 rfl rfl)
theorem dL_law_365 : decode cL_law 365 = .ok (.ireturn, 1) := dk_172 (dk_at dksL_law_14 21 rfl rfl)
theorem dL_law_366 : decode cL_law 366 = .ok (.iinc 3 6, 3) := dk_132 3 6 (dk_at dksL_law_15 0 rfl rfl)
theorem dL_law_369 : decode cL_law 369 = .ok (.goto (-351), 3) := dk_167 254 161 (dk_at dksL_law_15 3 rfl rfl)
theorem dL_law_372 : decode cL_law 372 = .ok (.iconst 1, 1) := dk_4 (dk_at dksL_law_15 6 rfl rfl)
theorem dL_law_373 : decode cL_law 373 = .ok (.ireturn, 1) := dk_172 (dk_at dksL_law_15 7 rfl rfl)
end
section
def uN (x : Int64) : Nat := x.toUInt64.toNat
theorem uN_lt (x : Int64) : uN x < 18446744073709551616 := x.toUInt64.toNat_lt
theorem uN_inj {x y : Int64} (h : uN x = uN y) : x = y := congrArg UInt64.toInt64 (UInt64.toNat_inj.mp h)
theorem uN_shr (x : Int64) (s : UInt64) : uN (x.toUInt64 >>> s).toInt64 = uN x / 2 ^ (s.toNat % 64) := by
  show (x.toUInt64 >>> s).toNat = _
  rw [UInt64.toNat_shiftRight, Nat.shiftRight_eq_div_pow]
  rfl
theorem uN_s32 (x : Int64) : uN (x.toUInt64 >>> ((32 : Int32).toInt64.toUInt64 &&& Int64.toUInt64 63)).toInt64 = uN x / 4294967296 := by
  have h : ((32 : Int32).toInt64.toUInt64 &&& Int64.toUInt64 63).toNat % 64 = 32 := by decide
  rw [uN_shr, h]
theorem uN_lo (x : Int64) : uN (x &&& 4294967295) = uN x % 4294967296 := by
  show (x.toUInt64 &&& Int64.toUInt64 4294967295).toNat = _
  rw [UInt64.toNat_and]
  exact Nat.and_two_pow_sub_one_eq_mod _ 32
theorem uN_int (x : Int64) : x.toInt = if 2 * uN x < 18446744073709551616 then (uN x : Int) else (uN x : Int) - 18446744073709551616 := BitVec.toInt_eq_toNat_cond _
def fb_si (f : Nat → Int) : Nat → Int
  | 0 => 0
  | n + 1 => fb_si f n + f n
theorem fb_si_succ (f : Nat → Int) (n : Nat) : fb_si f (n + 1) = fb_si f n + f n := rfl
theorem fb_si_cong {f g : Nat → Int} : ∀ {n : Nat}, (∀ k, k < n → f k = g k) → fb_si f n = fb_si g n
  | 0, _ => rfl
  | n + 1, h => by rw [fb_si_succ, fb_si_succ, fb_si_cong (fun k hk => h k (by omega)), h n (by omega)]
theorem fb_si_out (f : Nat → Int) (v : Int) {i n : Nat} (h : n ≤ i) : fb_si (fun k => if k = i then v else f k) n = fb_si f n :=
  fb_si_cong fun k hk => if_neg (by omega)
theorem fb_si_upd (f : Nat → Int) (v : Int) {i : Nat} : ∀ {n : Nat}, i < n → fb_si (fun k => if k = i then v else f k) n = fb_si f n - f i + v
  | 0, h => absurd h (Nat.not_lt_zero i)
  | n + 1, h => by
    rw [fb_si_succ, fb_si_succ]
    rcases Nat.lt_or_ge i n with q | q
    · have := fb_si_upd f v q
      have e : (if n = i then v else f n) = f n := if_neg (by omega)
      rw [e]
      omega
    · have e : i = n := by omega
      subst e
      rw [fb_si_out f v (Nat.le_refl _)]
      simp only [if_true]
      omega
theorem fb_si_add (f g : Nat → Int) : ∀ n, fb_si (fun k => f k + g k) n = fb_si f n + fb_si g n
  | 0 => rfl
  | n + 1 => by
    have h := fb_si_add f g n
    rw [fb_si_succ, fb_si_succ, fb_si_succ, h]
    omega
theorem fb_si_sub (f g : Nat → Int) : ∀ n, fb_si (fun k => f k - g k) n = fb_si f n - fb_si g n
  | 0 => rfl
  | n + 1 => by
    have h := fb_si_sub f g n
    rw [fb_si_succ, fb_si_succ, fb_si_succ, h]
    omega
theorem fb_si_mul (c : Int) (f : Nat → Int) : ∀ n, fb_si (fun k => c * f k) n = c * fb_si f n
  | 0 => (Int.mul_zero c).symm
  | n + 1 => by
    have h := fb_si_mul c f n
    rw [fb_si_succ, fb_si_succ, h, Int.mul_add]
theorem fb_si_split (f : Nat → Int) (m : Nat) : ∀ n, fb_si f (m + n) = fb_si f m + fb_si (fun k => f (m + k)) n
  | 0 => (Int.add_zero _).symm
  | n + 1 => by
    have h := fb_si_split f m n
    show fb_si f (m + n + 1) = _
    rw [fb_si_succ, fb_si_succ, h, Int.add_assoc]
def fa_fill {α : Type} (f g : Nat → α) (i : Nat) : Nat → α := fun k => if k < i then f k else g k
theorem fa_fill_0 {α : Type} (f g : Nat → α) : fa_fill f g 0 = g := funext fun k => if_neg (Nat.not_lt_zero k)
theorem fa_fill_in {α : Type} {f g : Nat → α} {i k : Nat} (h : k < i) : fa_fill f g i k = f k := if_pos h
theorem fa_fill_out {α : Type} {f g : Nat → α} {i k : Nat} (h : i ≤ k) : fa_fill f g i k = g k := if_neg (Nat.not_lt.mpr h)
theorem fa_fill_succ (f g : Nat → Int32) (i : Nat) : upd (fa_fill f g i) i (f i) = fa_fill f g (i + 1) := by
  funext k
  by_cases e : k = i
  · subst e
    rw [pk_us]
    exact (if_pos (Nat.lt_succ_self k)).symm
  · rw [pk_un e]
    by_cases h : k < i
    · rw [fa_fill_in h, fa_fill_in (Nat.lt_succ_of_lt h)]
    · rw [fa_fill_out (Nat.le_of_not_lt h), fa_fill_out (by omega)]
end
section
/-! plain arithmetic of ints and longs, by their values (own) -/
theorem ar_lo (x : Int32) : -2147483648 ≤ x.toInt := by have h := x.le_toInt; omega
theorem ar_hi (x : Int32) : x.toInt ≤ 2147483647 := by have h := x.toInt_lt; omega
theorem ar_lo64 (x : Int64) : -9223372036854775808 ≤ x.toInt := by have h := x.le_toInt; omega
theorem ar_hi64 (x : Int64) : x.toInt ≤ 9223372036854775807 := by have h := x.toInt_lt; omega
theorem ar_b32 {x : Int} (h1 : -2147483648 ≤ x) (h2 : x ≤ 2147483647) : x.bmod (2 ^ 32) = x := by
  have e : ((2 ^ 32 : Nat) : Int) = 4294967296 := by decide
  refine Int.bmod_eq_of_le_mul_two ?_ ?_
  · rw [e]; omega
  · rw [e]; omega
theorem ar_b64 {x : Int} (h1 : -9223372036854775808 ≤ x) (h2 : x ≤ 9223372036854775807) : x.bmod (2 ^ 64) = x := by
  have e : ((2 ^ 64 : Nat) : Int) = 18446744073709551616 := by decide
  refine Int.bmod_eq_of_le_mul_two ?_ ?_
  · rw [e]; omega
  · rw [e]; omega
theorem ar_bm {x : Int} (h0 : 0 ≤ x) (h1 : x < 4294967296) : x.bmod (2 ^ 32) = if x < 2147483648 then x else x - 4294967296 := by
  have e : ((2 ^ 32 : Nat) : Int) = 4294967296 := by decide
  rw [Int.bmod_def, e]
  split <;> split <;> omega
theorem ar_add {a b : Int32} (h1 : -2147483648 ≤ a.toInt + b.toInt) (h2 : a.toInt + b.toInt ≤ 2147483647) : (a + b).toInt = a.toInt + b.toInt := by
  rw [Int32.toInt_add]; exact ar_b32 h1 h2
theorem ar_sub {a b : Int32} (h1 : -2147483648 ≤ a.toInt - b.toInt) (h2 : a.toInt - b.toInt ≤ 2147483647) : (a - b).toInt = a.toInt - b.toInt := by
  rw [Int32.toInt_sub]; exact ar_b32 h1 h2
theorem ar_mul {a b : Int32} (h1 : -2147483648 ≤ a.toInt * b.toInt) (h2 : a.toInt * b.toInt ≤ 2147483647) : (a * b).toInt = a.toInt * b.toInt := by
  rw [Int32.toInt_mul]; exact ar_b32 h1 h2
theorem ar_add64 {a b : Int64} (h1 : -9223372036854775808 ≤ a.toInt + b.toInt) (h2 : a.toInt + b.toInt ≤ 9223372036854775807) : (a + b).toInt = a.toInt + b.toInt := by
  rw [Int64.toInt_add]; exact ar_b64 h1 h2
theorem ar_sub64 {a b : Int64} (h1 : -9223372036854775808 ≤ a.toInt - b.toInt) (h2 : a.toInt - b.toInt ≤ 9223372036854775807) : (a - b).toInt = a.toInt - b.toInt := by
  rw [Int64.toInt_sub]; exact ar_b64 h1 h2
theorem ar_mul64 {a b : Int64} (h1 : -9223372036854775808 ≤ a.toInt * b.toInt) (h2 : a.toInt * b.toInt ≤ 9223372036854775807) : (a * b).toInt = a.toInt * b.toInt := by
  rw [Int64.toInt_mul]; exact ar_b64 h1 h2
/-- a product by its factors' bounds -/
theorem ar_prod {x y A B : Int} (h1 : -A ≤ x) (h2 : x ≤ A) (h3 : -B ≤ y) (h4 : y ≤ B) : -(A * B) ≤ x * y ∧ x * y ≤ A * B := by
  have p1 : 0 ≤ (A - x) * (B - y) := Int.mul_nonneg (by omega) (by omega)
  have p2 : 0 ≤ (A + x) * (B + y) := Int.mul_nonneg (by omega) (by omega)
  have p3 : 0 ≤ (A - x) * (B + y) := Int.mul_nonneg (by omega) (by omega)
  have p4 : 0 ≤ (A + x) * (B - y) := Int.mul_nonneg (by omega) (by omega)
  constructor <;> grind
/-! congruence modulo q = 8380417 -/
def cg (a b : Int) : Prop := ∃ k : Int, a - b = 8380417 * k
theorem cg.rf (a : Int) : cg a a := ⟨0, by omega⟩
theorem cg.of {a b : Int} (h : a = b) : cg a b := ⟨0, by omega⟩
theorem cg.sy {a b : Int} (h : cg a b) : cg b a := by obtain ⟨k, h⟩ := h; exact ⟨-k, by omega⟩
theorem cg.tr {a b c : Int} (h : cg a b) (h2 : cg b c) : cg a c := by obtain ⟨k, h⟩ := h; obtain ⟨j, h2⟩ := h2; exact ⟨k + j, by omega⟩
theorem cg.add {a b c d : Int} (h : cg a b) (h2 : cg c d) : cg (a + c) (b + d) := by obtain ⟨k, h⟩ := h; obtain ⟨j, h2⟩ := h2; exact ⟨k + j, by omega⟩
theorem cg.sub {a b c d : Int} (h : cg a b) (h2 : cg c d) : cg (a - c) (b - d) := by obtain ⟨k, h⟩ := h; obtain ⟨j, h2⟩ := h2; exact ⟨k - j, by omega⟩
theorem cg.neg {a b : Int} (h : cg a b) : cg (-a) (-b) := by obtain ⟨k, h⟩ := h; exact ⟨-k, by omega⟩
theorem cg.mul {a b c d : Int} (h : cg a b) (h2 : cg c d) : cg (a * c) (b * d) := by
  obtain ⟨k, h⟩ := h; obtain ⟨j, h2⟩ := h2
  refine ⟨k * c + b * j, ?_⟩
  have e1 : a = b + 8380417 * k := by omega
  have e2 : c = d + 8380417 * j := by omega
  subst e1; subst e2
  grind
theorem cg.ml (c : Int) {a b : Int} (h : cg a b) : cg (c * a) (c * b) := (cg.rf c).mul h
theorem cg.mr (c : Int) {a b : Int} (h : cg a b) : cg (a * c) (b * c) := h.mul (cg.rf c)
theorem cg.of_mod {a b : Int} (h : (a - b) % 8380417 = 0) : cg a b := ⟨(a - b) / 8380417, by omega⟩
theorem cg.mod {a b : Int} (h : cg a b) : a % 8380417 = b % 8380417 := by obtain ⟨k, h⟩ := h; omega
theorem cg.emod (a : Int) : cg (a % 8380417) a := cg.of_mod (by omega)
theorem cg.eq {a b : Int} (h : cg a b) (h1 : 0 ≤ a) (h2 : a < 8380417) (h3 : 0 ≤ b) (h4 : b < 8380417) : a = b := by obtain ⟨k, h⟩ := h; omega
/-! Reduce.montgomeryReduce -/
def montJ (a : Int64) : Int32 := (((a - (a * 58728449).toInt32.toInt64 * 8380417).toUInt64 >>> ((32 : Int32).toInt64.toUInt64 &&& Int64.toUInt64 63)).toInt64).toInt32
theorem ar_lit64a : (58728449 : Int64).toInt = 58728449 := by decide
theorem ar_lit64q : (8380417 : Int64).toInt = 8380417 := by decide
theorem ar_litq : (8380417 : Int32).toInt = 8380417 := by decide
theorem mont_ex (a : Int64) (h1 : -17996808470921216 ≤ a.toInt) (h2 : a.toInt ≤ 17996808470921216) : ∃ t : Int, -2147483648 ≤ t ∧ t ≤ 2147483647 ∧ (montJ a).toInt * 4294967296 = a.toInt - t * 8380417 := by
  unfold montJ
  generalize ht : (a * 58728449).toInt32 = t
  have e1 : t.toInt = (a.toInt * 58728449).bmod (2 ^ 32) := by
    rw [← ht, Int64.toInt_toInt32, Int64.toInt_mul, ar_lit64a]
    exact Int.bmod_bmod_of_dvd (by decide)
  have e2 : t.toInt % 4294967296 = (a.toInt * 58728449) % 4294967296 := by
    rw [e1]
    exact Int.bmod_emod
  have b1 := ar_lo t
  have b2 := ar_hi t
  have e3 : (a - t.toInt64 * 8380417).toInt = a.toInt - t.toInt * 8380417 := by
    have m : (t.toInt64 * 8380417).toInt = t.toInt * 8380417 := by
      rw [ar_mul64] <;> rw [ar_lit64q, Int32.toInt_toInt64] <;> omega
    rw [ar_sub64] <;> rw [m] <;> omega
  generalize a - t.toInt64 * 8380417 = D at e3
  refine ⟨t.toInt, b1, b2, ?_⟩
  have hu := uN_s32 D
  have hi := uN_int D
  have hlt := uN_lt D
  generalize (D.toUInt64 >>> ((32 : Int32).toInt64.toUInt64 &&& Int64.toUInt64 63)).toInt64 = y at hu
  have hy := uN_int y
  have hy2 : y.toInt = (uN y : Int) := by rw [hy, if_pos (by omega)]
  rw [Int64.toInt_toInt32, ar_bm (by omega) (by omega), hy2, hu]
  split at hi <;> split <;> omega
theorem mont_spec (a : Int64) (h1 : -17996808470921216 ≤ a.toInt) (h2 : a.toInt ≤ 17996808470921216) : cg (montJ a).toInt (a.toInt * 8265825) ∧ -8380417 ≤ (montJ a).toInt ∧ (montJ a).toInt ≤ 8380417 := by
  obtain ⟨t, t1, t2, e⟩ := mont_ex a h1 h2
  refine ⟨⟨-(4236238847 * (montJ a).toInt) - 8265825 * t, ?_⟩, by omega, by omega⟩
  omega
/-! Reduce.reduce32, conditionalAddQ, HintRing.whole -/
def redJ (a : Int32) : Int32 := a - (a + 4194304) >>> ((23 : Int32) &&& 31) * 8380417
def capJ (a : Int32) : Int32 := a + (a >>> ((31 : Int32) &&& 31) &&& 8380417)
def wholeJ (a : Int32) : Int32 := capJ (redJ a)
theorem ar_shr {a : Int32} (s : Int32) (k : Nat) (hs : ((s &&& 31).toBitVec.smod 32).toNat = k) : (a >>> (s &&& 31)).toInt = a.toInt / 2 ^ k := by
  rw [pk_shr a (s &&& 31) k hs, Int.shiftRight_eq_div_pow]
  norm_cast
theorem red_spec (a : Int32) (h : a.toInt ≤ 2143289343) : (redJ a).toInt = a.toInt - (a.toInt + 4194304) / 8388608 * 8380417 := by
  have b1 := ar_lo a
  unfold redJ
  have e0 : (4194304 : Int32).toInt = 4194304 := by decide
  have e1 : (a + 4194304).toInt = a.toInt + 4194304 := by rw [ar_add] <;> rw [e0] <;> omega
  have e2 : ((a + 4194304) >>> ((23 : Int32) &&& 31)).toInt = (a.toInt + 4194304) / 8388608 := by
    rw [ar_shr 23 23 (by decide), e1]
    rfl
  generalize (a + 4194304) >>> ((23 : Int32) &&& 31) = t at e2
  have e3 : (t * 8380417).toInt = t.toInt * 8380417 := by rw [ar_mul] <;> rw [ar_litq] <;> omega
  rw [ar_sub, e3, e2] <;> rw [e3, e2] <;> omega
theorem cap_spec (a : Int32) (h1 : -8380417 ≤ a.toInt) (h2 : a.toInt ≤ 8380417) : (capJ a).toInt = if a.toInt < 0 then a.toInt + 8380417 else a.toInt := by
  unfold capJ
  have e2 : (a >>> ((31 : Int32) &&& 31)).toInt = a.toInt / 2147483648 := by
    rw [ar_shr 31 31 (by decide)]
    rfl
  split
  · rename_i h
    have e3 : a >>> ((31 : Int32) &&& 31) = -1 := by
      apply Int32.toInt_inj.mp
      rw [e2]
      have : (-1 : Int32).toInt = -1 := by decide
      omega
    rw [e3, show (-1 : Int32) &&& 8380417 = 8380417 by decide, ar_add] <;> rw [ar_litq] <;> omega
  · rename_i h
    have e3 : a >>> ((31 : Int32) &&& 31) = 0 := by
      apply Int32.toInt_inj.mp
      rw [e2]
      have : (0 : Int32).toInt = 0 := by decide
      omega
    have e0 : (0 : Int32).toInt = 0 := by decide
    rw [e3, show (0 : Int32) &&& 8380417 = 0 by decide, ar_add] <;> rw [e0] <;> omega
theorem whole_spec (a : Int32) (h : a.toInt ≤ 2143289343) : (wholeJ a).toInt = a.toInt % 8380417 := by
  have b1 := ar_lo a
  have e := red_spec a h
  unfold wholeJ
  rw [cap_spec _ (by omega) (by omega), e]
  split <;> omega
end
section
/-! Java's remainders by their values; fair, the model's montgomery and brought (own) -/
theorem rem_pos {x d : Int32} (hd : 0 < d.toInt) (hx : 0 ≤ x.toInt) : (x - x / d * d).toInt = x.toInt % d.toInt ∧ (x / d).toInt = x.toInt / d.toInt := by
  have h0 : 0 ≤ x.toInt / d.toInt := Int.ediv_nonneg hx (by omega)
  have h1 : x.toInt / d.toInt ≤ x.toInt := Int.ediv_le_self _ hx
  have h2 := ar_hi x
  have e1 : (x / d).toInt = x.toInt / d.toInt := by rw [Int32.toInt_div, Int.tdiv_eq_ediv_of_nonneg hx]; exact ar_b32 (by omega) (by omega)
  have h3 : x.toInt / d.toInt * d.toInt ≤ x.toInt := Int.ediv_mul_le _ (by omega)
  have h4 : 0 ≤ x.toInt / d.toInt * d.toInt := Int.mul_nonneg h0 (by omega)
  have e2 : (x / d * d).toInt = x.toInt / d.toInt * d.toInt := by rw [ar_mul, e1] <;> rw [e1] <;> omega
  refine ⟨?_, e1⟩
  have e3 : (x - x / d * d).toInt = x.toInt - x.toInt / d.toInt * d.toInt := by rw [ar_sub, e2] <;> rw [e2] <;> omega
  rw [e3, Int.emod_def, Int.mul_comm d.toInt]
theorem rem64_pos {x d : Int64} (hd : 0 < d.toInt) (hx : 0 ≤ x.toInt) : (x - x / d * d).toInt = x.toInt % d.toInt := by
  have h0 : 0 ≤ x.toInt / d.toInt := Int.ediv_nonneg hx (by omega)
  have h1 : x.toInt / d.toInt ≤ x.toInt := Int.ediv_le_self _ hx
  have h2 := ar_hi64 x
  have e1 : (x / d).toInt = x.toInt / d.toInt := by rw [Int64.toInt_div, Int.tdiv_eq_ediv_of_nonneg hx]; exact ar_b64 (by omega) (by omega)
  have h3 : x.toInt / d.toInt * d.toInt ≤ x.toInt := Int.ediv_mul_le _ (by omega)
  have h4 : 0 ≤ x.toInt / d.toInt * d.toInt := Int.mul_nonneg h0 (by omega)
  have e2 : (x / d * d).toInt = x.toInt / d.toInt * d.toInt := by rw [ar_mul64, e1] <;> rw [e1] <;> omega
  have e3 : (x - x / d * d).toInt = x.toInt - x.toInt / d.toInt * d.toInt := by rw [ar_sub64, e2] <;> rw [e2] <;> omega
  rw [e3, Int.emod_def, Int.mul_comm d.toInt]
def remJ (x : Int32) : Int32 := x - x / 8380417 * 8380417
theorem rem_q {x : Int32} (hx : 0 ≤ x.toInt) : (remJ x).toInt = x.toInt % 8380417 := by
  have h := (rem_pos (x := x) (d := 8380417) (by decide) hx).1
  rw [ar_litq] at h
  exact h
theorem rem_qn {x : Int32} (hx : x.toInt < 0) : (remJ x).toInt = -((-x.toInt) % 8380417) := by
  have b1 := ar_lo x
  have e1 : (x / 8380417).toInt = -((-x.toInt) / 8380417) := by
    have h : x.toInt.tdiv 8380417 = -((-x.toInt) / 8380417) := by
      rw [← Int.tdiv_eq_ediv_of_nonneg (a := -x.toInt) (b := 8380417) (by omega), Int.neg_tdiv, Int.neg_neg]
    rw [Int32.toInt_div, ar_litq, h]
    exact ar_b32 (by omega) (by omega)
  unfold remJ
  have e2 : (x / 8380417 * 8380417).toInt = -((-x.toInt) / 8380417) * 8380417 := by rw [ar_mul, e1, ar_litq] <;> rw [e1, ar_litq] <;> omega
  have e3 : (x - x / 8380417 * 8380417).toInt = x.toInt - (x / 8380417 * 8380417).toInt := by apply ar_sub <;> rw [e2] <;> omega
  rw [e3, e2]
  omega
def fairJ (v : Int32) : Int32 := remJ (v &&& 2147483647)
theorem ar_mask31 (v : Int32) : 0 ≤ (v &&& 2147483647).toInt := by
  obtain ⟨j, hj, e⟩ := pk_andE v (m := 2147483647) 31 (by decide)
  rw [e, nI_toInt (by omega)]
  omega
theorem fair_spec (v : Int32) : 0 ≤ (fairJ v).toInt ∧ (fairJ v).toInt < 8380417 := by
  have h := ar_mask31 v
  unfold fairJ
  rw [rem_q h]
  omega
/-- HintRing.montgomery -/
def hmJ (a b : Int32) : Int32 := wholeJ (montJ ((fairJ a).toInt64 * b.toInt64))
/-- HintRingModel.montgomery: y < 0 ? y + q : y, as a long -/
def myJ (b : Int32) : Int64 := if 0 ≤ lg_cmp (remJ b).toInt64 0 then (remJ b).toInt64 else (remJ b).toInt64 + 8380417
def remL (x : Int64) : Int64 := x - x / 8380417 * 8380417
def mmJ (a b : Int32) : Int32 := (remL (remL ((fairJ a).toInt64 * myJ b) * 8265825)).toInt32
theorem remL_q {x : Int64} (hx : 0 ≤ x.toInt) : (remL x).toInt = x.toInt % 8380417 := by
  have h := rem64_pos (x := x) (d := 8380417) (by decide) hx
  rw [ar_lit64q] at h
  exact h
theorem ar_m0 (x : Int) : 0 ≤ x % 8380417 := Int.emod_nonneg _ (by decide)
theorem ar_m1 (x : Int) : x % 8380417 ≤ 8380416 := by have h := Int.emod_lt_of_pos x (show (0 : Int) < 8380417 by decide); omega
theorem my_spec (b : Int32) : (myJ b).toInt = b.toInt % 8380417 := by
  have b1 := ar_lo b
  have b2 := ar_hi b
  have z0 : (0 : Int64).toInt = 0 := by decide
  have hw : (remJ b).toInt64.toInt = (remJ b).toInt := Int32.toInt_toInt64 _
  have hg : (0 ≤ lg_cmp (remJ b).toInt64 0) ↔ 0 ≤ (remJ b).toInt := by rw [lg_cmp_ge, Int64.le_iff_toInt_le, hw, z0]
  unfold myJ
  by_cases h : 0 ≤ (remJ b).toInt
  · rw [if_pos (hg.mpr h), hw]
    by_cases hv : 0 ≤ b.toInt
    · exact rem_q hv
    · have e := rem_qn (x := b) (by omega)
      rw [e] at h ⊢
      omega
  · have hv : b.toInt < 0 := by
      by_cases q : b.toInt < 0
      · exact q
      · rw [rem_q (by omega)] at h
        exact absurd (ar_m0 _) h
    have e := rem_qn hv
    have e2 : ((remJ b).toInt64 + 8380417).toInt = (remJ b).toInt + 8380417 := by
      rw [ar_add64 (by rw [hw, ar_lit64q, e]; omega) (by rw [hw, ar_lit64q, e]; omega), hw, ar_lit64q]
    rw [if_neg (fun q => h (hg.mp q)), e2, e]
    rw [e] at h
    omega
theorem mm_spec (a b : Int32) : (mmJ a b).toInt = ((fairJ a).toInt * (b.toInt % 8380417) % 8380417 * 8265825) % 8380417 := by
  obtain ⟨f1, f2⟩ := fair_spec a
  have e1 := my_spec b
  have hw : (fairJ a).toInt64.toInt = (fairJ a).toInt := Int32.toInt_toInt64 _
  have m0 := ar_m0 b.toInt
  have m1 := ar_m1 b.toInt
  unfold mmJ
  generalize (fairJ a).toInt64 = X at hw
  generalize (fairJ a).toInt = x at hw f1 f2
  generalize myJ b = Y at e1
  generalize b.toInt % 8380417 = y at e1 m0 m1
  have hp := ar_prod (x := x) (y := y) (A := 8380417) (B := 8380417) (by omega) (by omega) (by omega) (by omega)
  have hn : 0 ≤ x * y := Int.mul_nonneg f1 (by omega)
  have e2 : (X * Y).toInt = x * y := by
    rw [ar_mul64 (by rw [hw, e1]; omega) (by rw [hw, e1]; omega), hw, e1]
  generalize x * y = w at hp hn e2
  have e3 : (remL (X * Y)).toInt = w % 8380417 := by rw [remL_q (by rw [e2]; exact hn), e2]
  have w0 := ar_m0 w
  have w1 := ar_m1 w
  generalize remL (X * Y) = Z at e3
  generalize w % 8380417 = z at e3 w0 w1
  have z8 : (8265825 : Int64).toInt = 8265825 := by decide
  have e4 : (Z * 8265825).toInt = z * 8265825 := by
    rw [ar_mul64 (by rw [e3, z8]; omega) (by rw [e3, z8]; omega), e3, z8]
  rw [Int64.toInt_toInt32, remL_q (by rw [e4]; omega), e4]
  have v0 := ar_m0 (z * 8265825)
  have v1 := ar_m1 (z * 8265825)
  exact ar_b32 (by omega) (by omega)
theorem hm_spec (a b : Int32) : hmJ a b = mmJ a b := by
  obtain ⟨f1, f2⟩ := fair_spec a
  have b1 := ar_lo b
  have b2 := ar_hi b
  have hw : (fairJ a).toInt64.toInt = (fairJ a).toInt := Int32.toInt_toInt64 _
  have hw2 : b.toInt64.toInt = b.toInt := Int32.toInt_toInt64 _
  have hp := ar_prod (x := (fairJ a).toInt) (y := b.toInt) (A := 8380417) (B := 2147483648) (by omega) (by omega) (by omega) (by omega)
  have e1 : ((fairJ a).toInt64 * b.toInt64).toInt = (fairJ a).toInt * b.toInt := by
    rw [ar_mul64 (by rw [hw, hw2]; omega) (by rw [hw, hw2]; omega), hw, hw2]
  obtain ⟨m1, m2, m3⟩ := mont_spec ((fairJ a).toInt64 * b.toInt64) (by rw [e1]; omega) (by rw [e1]; omega)
  have e2 : (hmJ a b).toInt = (montJ ((fairJ a).toInt64 * b.toInt64)).toInt % 8380417 := whole_spec _ (by omega)
  apply Int32.toInt_inj.mp
  rw [e2, mm_spec, m1.mod, e1]
  refine (cg.mod ?_).symm
  refine (cg.mr 8265825 ((cg.emod _).tr ?_))
  exact cg.ml _ (cg.emod _)
/-- brought -/
def hbJ (v : Int32) : Int32 := if v ≤ 2143289343 then wholeJ v else -1
def mbJ (v : Int32) : Int32 := if v ≤ 2143289343 then (if 0 ≤ remJ v then remJ v else remJ v + 8380417) else -1
theorem hb_spec (v : Int32) : hbJ v = mbJ v := by
  unfold hbJ mbJ
  have z0 : (0 : Int32).toInt = 0 := by decide
  by_cases h : v ≤ 2143289343
  · rw [if_pos h, if_pos h]
    rw [Int32.le_iff_toInt_le] at h
    have h : v.toInt ≤ 2143289343 := h
    have b1 := ar_lo v
    apply Int32.toInt_inj.mp
    rw [whole_spec v h]
    by_cases hv : 0 ≤ v.toInt
    · have e := rem_q hv
      rw [if_pos (by rw [Int32.le_iff_toInt_le, e, z0]; omega), e]
    · have e := rem_qn (x := v) (by omega)
      by_cases hz : (-v.toInt) % 8380417 = 0
      · rw [if_pos (by rw [Int32.le_iff_toInt_le, e, z0]; omega), e]
        omega
      · rw [if_neg (by rw [Int32.le_iff_toInt_le, e, z0]; omega), ar_add (by rw [e, ar_litq]; omega) (by rw [e, ar_litq]; omega), e, ar_litq]
        omega
  · rw [if_neg h, if_neg h]
end
section
/-! contracts of the methods that touch no cell: Reduce, fair, whole, montgomery, brought (printed by gen/g10.py) -/
set_option maxHeartbeats 4000000 in
set_option maxRecDepth 100000 in
theorem metX3_montgomeryReduce (l : Launch) (a : Int64) : Met l yX3_montgomeryReduce (ws_ yX3_montgomeryReduce cX3_montgomeryReduce 3 (some .int)) ({ frames := 0, cells := 0, slots := 0, locals := 0 }) (va_Pc [.long a] (fun _ => True)) (vp_Si (fun r => r = montJ a)) 0 0 (fun _ => False) := by
  refine Met.ofW (cc := cX3_montgomeryReduce) (maxL := 3) (ret := some .int) (by decide) rfl ?_
  intro p e s m args below meth c s₁ B hml hv
  obtain ⟨rfl, -⟩ := hv
  have hx := B.exec
  have hb := B.bytes
  have hr := B.returns
  have hts := atoms_spec (ws := ws_ yX3_montgomeryReduce cX3_montgomeryReduce 3 (some .int)) B.pre
  have hts : ∀ w ∈ lw_all, w.before _ s = true := fun w h => hts w (List.mem_cons_of_mem _ h)
  have hown : s.vm.findClass RX3 = some m.cls := findClass_of_methodNamed B.named
  have hlocks := B.notSynchronized
  have hl := lv_entry ([.long a]) (n := 3) (Nat.le_of_ble_eq_true rfl)
  rw [lg_entry_eq]
  generalize (lg_sl ([.long a]) ++ List.replicate (3 - (lg_sl ([.long a])).length) Slot.unset).toArray = ls at hl ⊢
  have hl : lv_has ls 3 [(0, .long a)] := hl

  refine lv_lload_n hx hb dX3_montgomeryReduce_0 rfl (lv_at hl 0 rfl) ?_
  refine lv_ldc2 hx hb hown (hts _ q50) dX3_montgomeryReduce_1 ?_
  refine lv_lmul hx hb dX3_montgomeryReduce_4 ?_
  refine lv_l2i hx hb dX3_montgomeryReduce_5 rfl ?_
  refine lv_topi (fun v_6 ev_6 => ?_)
  refine lv_istore_n (lv' := [(2, .int v_6), (0, .long a)]) hx hb dX3_montgomeryReduce_6 rfl hl (by decide) rfl (fun ls hl => ?_)
  refine lv_lload_n hx hb dX3_montgomeryReduce_7 rfl (lv_at hl 1 rfl) ?_
  refine lv_iload_n hx hb dX3_montgomeryReduce_8 rfl (lv_at hl 0 rfl) ?_
  refine lv_i2l hx hb dX3_montgomeryReduce_9 rfl ?_
  refine lv_ldc2 hx hb hown (hts _ q51) dX3_montgomeryReduce_10 ?_
  refine lv_lmul hx hb dX3_montgomeryReduce_13 ?_
  refine lv_lsub hx hb dX3_montgomeryReduce_14 ?_
  refine lv_bipush (v := 32) hx hb dX3_montgomeryReduce_15 (by decide) ?_
  refine lv_lushr hx hb dX3_montgomeryReduce_17 rfl ?_
  refine lv_l2i hx hb dX3_montgomeryReduce_18 rfl ?_
  refine lv_topi (fun v_19 ev_19 => ?_)
  refine lv_istore_n (lv' := [(2, .int v_19), (0, .long a)]) hx hb dX3_montgomeryReduce_19 rfl hl (by decide) rfl (fun ls hl => ?_)
  refine lv_iload_n hx hb dX3_montgomeryReduce_20 rfl (lv_at hl 0 rfl) ?_
  subst ev_6
  exact W.iret (v := v_19) hx hb hr (fun t ht hW => ⟨_, rfl, ev_19, ht⟩) (fun q h => by cases h) dX3_montgomeryReduce_21
set_option maxHeartbeats 4000000 in
set_option maxRecDepth 100000 in
theorem metX3_reduce32 (l : Launch) (a : Int32) : Met l yX3_reduce32 (ws_ yX3_reduce32 cX3_reduce32 2 (some .int)) ({ frames := 0, cells := 0, slots := 0, locals := 0 }) (va_Pc [.int a] (fun _ => True)) (vp_Si (fun r => r = redJ a)) 0 0 (fun _ => False) := by
  refine Met.ofW (cc := cX3_reduce32) (maxL := 2) (ret := some .int) (by decide) rfl ?_
  intro p e s m args below meth c s₁ B hml hv
  obtain ⟨rfl, -⟩ := hv
  have hx := B.exec
  have hb := B.bytes
  have hr := B.returns
  have hts := atoms_spec (ws := ws_ yX3_reduce32 cX3_reduce32 2 (some .int)) B.pre
  have hts : ∀ w ∈ lw_all, w.before _ s = true := fun w h => hts w (List.mem_cons_of_mem _ h)
  have hown : s.vm.findClass RX3 = some m.cls := findClass_of_methodNamed B.named
  have hlocks := B.notSynchronized
  have hl := lv_entry ([.int a]) (n := 2) (Nat.le_of_ble_eq_true rfl)
  rw [lg_entry_eq]
  generalize (lg_sl ([.int a]) ++ List.replicate (2 - (lg_sl ([.int a])).length) Slot.unset).toArray = ls at hl ⊢
  have hl : lv_has ls 2 [(0, .int a)] := hl

  refine lv_iload_n hx hb dX3_reduce32_0 rfl (lv_at hl 0 rfl) ?_
  refine lv_ldc hx hb hown (hts _ q63) dX3_reduce32_1 ?_
  refine lv_iadd hx hb dX3_reduce32_3 ?_
  refine lv_bipush (v := 23) hx hb dX3_reduce32_4 (by decide) ?_
  refine lv_ishr hx hb dX3_reduce32_6 ?_
  refine lv_topi (fun v_7 ev_7 => ?_)
  refine lv_istore_n (lv' := [(1, .int v_7), (0, .int a)]) hx hb dX3_reduce32_7 rfl hl (by decide) rfl (fun ls hl => ?_)
  refine lv_iload_n hx hb dX3_reduce32_8 rfl (lv_at hl 1 rfl) ?_
  refine lv_iload_n hx hb dX3_reduce32_9 rfl (lv_at hl 0 rfl) ?_
  refine lv_ldc hx hb hown (hts _ q64) dX3_reduce32_10 ?_
  refine lv_imul hx hb dX3_reduce32_12 ?_
  refine lv_isub hx hb dX3_reduce32_13 ?_
  refine lv_topi (fun v_14 ev_14 => ?_)
  refine lv_istore_n (lv' := [(1, .int v_14), (0, .int a)]) hx hb dX3_reduce32_14 rfl hl (by decide) rfl (fun ls hl => ?_)
  refine lv_iload_n hx hb dX3_reduce32_15 rfl (lv_at hl 0 rfl) ?_
  subst ev_7
  exact W.iret (v := v_14) hx hb hr (fun t ht hW => ⟨_, rfl, ev_14, ht⟩) (fun q h => by cases h) dX3_reduce32_16
set_option maxHeartbeats 4000000 in
set_option maxRecDepth 100000 in
theorem metX3_conditionalAddQ (l : Launch) (a : Int32) : Met l yX3_conditionalAddQ (ws_ yX3_conditionalAddQ cX3_conditionalAddQ 1 (some .int)) ({ frames := 0, cells := 0, slots := 0, locals := 0 }) (va_Pc [.int a] (fun _ => True)) (vp_Si (fun r => r = capJ a)) 0 0 (fun _ => False) := by
  refine Met.ofW (cc := cX3_conditionalAddQ) (maxL := 1) (ret := some .int) (by decide) rfl ?_
  intro p e s m args below meth c s₁ B hml hv
  obtain ⟨rfl, -⟩ := hv
  have hx := B.exec
  have hb := B.bytes
  have hr := B.returns
  have hts := atoms_spec (ws := ws_ yX3_conditionalAddQ cX3_conditionalAddQ 1 (some .int)) B.pre
  have hts : ∀ w ∈ lw_all, w.before _ s = true := fun w h => hts w (List.mem_cons_of_mem _ h)
  have hown : s.vm.findClass RX3 = some m.cls := findClass_of_methodNamed B.named
  have hlocks := B.notSynchronized
  have hl := lv_entry ([.int a]) (n := 1) (Nat.le_of_ble_eq_true rfl)
  rw [lg_entry_eq]
  generalize (lg_sl ([.int a]) ++ List.replicate (1 - (lg_sl ([.int a])).length) Slot.unset).toArray = ls at hl ⊢
  have hl : lv_has ls 1 [(0, .int a)] := hl

  refine lv_iload_n hx hb dX3_conditionalAddQ_0 rfl (lv_at hl 0 rfl) ?_
  refine lv_iload_n hx hb dX3_conditionalAddQ_1 rfl (lv_at hl 0 rfl) ?_
  refine lv_bipush (v := 31) hx hb dX3_conditionalAddQ_2 (by decide) ?_
  refine lv_ishr hx hb dX3_conditionalAddQ_4 ?_
  refine lv_ldc hx hb hown (hts _ q64) dX3_conditionalAddQ_5 ?_
  refine lv_iand hx hb dX3_conditionalAddQ_7 ?_
  refine lv_iadd hx hb dX3_conditionalAddQ_8 ?_
  refine lv_topi (fun v_9 ev_9 => ?_)
  refine lv_istore_n (lv' := [(0, .int v_9)]) hx hb dX3_conditionalAddQ_9 rfl hl (by decide) rfl (fun ls hl => ?_)
  refine lv_iload_n hx hb dX3_conditionalAddQ_10 rfl (lv_at hl 0 rfl) ?_
  exact W.iret (v := v_9) hx hb hr (fun t ht hW => ⟨_, rfl, ev_9, ht⟩) (fun q h => by cases h) dX3_conditionalAddQ_11
set_option maxHeartbeats 4000000 in
set_option maxRecDepth 100000 in
theorem metX0_fair (l : Launch) (a : Int32) : Met l yX0_fair (ws_ yX0_fair cX0_fair 1 (some .int)) ({ frames := 0, cells := 0, slots := 0, locals := 0 }) (va_Pc [.int a] (fun _ => True)) (vp_Si (fun r => r = fairJ a)) 0 0 (fun _ => False) := by
  refine Met.ofW (cc := cX0_fair) (maxL := 1) (ret := some .int) (by decide) rfl ?_
  intro p e s m args below meth c s₁ B hml hv
  obtain ⟨rfl, -⟩ := hv
  have hx := B.exec
  have hb := B.bytes
  have hr := B.returns
  have hts := atoms_spec (ws := ws_ yX0_fair cX0_fair 1 (some .int)) B.pre
  have hts : ∀ w ∈ lw_all, w.before _ s = true := fun w h => hts w (List.mem_cons_of_mem _ h)
  have hown : s.vm.findClass RX0 = some m.cls := findClass_of_methodNamed B.named
  have hlocks := B.notSynchronized
  have hl := lv_entry ([.int a]) (n := 1) (Nat.le_of_ble_eq_true rfl)
  rw [lg_entry_eq]
  generalize (lg_sl ([.int a]) ++ List.replicate (1 - (lg_sl ([.int a])).length) Slot.unset).toArray = ls at hl ⊢
  have hl : lv_has ls 1 [(0, .int a)] := hl

  refine lv_iload_n hx hb dX0_fair_0 rfl (lv_at hl 0 rfl) ?_
  refine lv_ldc hx hb hown (hts _ q32) dX0_fair_1 ?_
  refine lv_iand hx hb dX0_fair_3 ?_
  refine lv_ldc hx hb hown (hts _ q33) dX0_fair_4 ?_
  refine lv_irem hx hb dX0_fair_6 (by decide) ?_
  exact W.iret (v := fairJ a) hx hb hr (fun t ht hW => ⟨_, rfl, rfl, ht⟩) (fun q h => by cases h) dX0_fair_7
set_option maxHeartbeats 4000000 in
set_option maxRecDepth 100000 in
theorem metX0_whole (l : Launch) (a : Int32) : Met l yX0_whole (ws_ yX0_whole cX0_whole 1 (some .int)) ({ frames := 1, cells := 0, slots := 0, locals := 21 }) (va_Pc [.int a] (fun _ => True)) (vp_Si (fun r => r = wholeJ a)) 0 0 (fun _ => False) := by
  refine Met.ofW (cc := cX0_whole) (maxL := 1) (ret := some .int) (by decide) rfl ?_
  intro p e s m args below meth c s₁ B hml hv
  obtain ⟨rfl, -⟩ := hv
  have hx := B.exec
  have hb := B.bytes
  have hr := B.returns
  have hts := atoms_spec (ws := ws_ yX0_whole cX0_whole 1 (some .int)) B.pre
  have hts : ∀ w ∈ lw_all, w.before _ s = true := fun w h => hts w (List.mem_cons_of_mem _ h)
  have hown : s.vm.findClass RX0 = some m.cls := findClass_of_methodNamed B.named
  have hlocks := B.notSynchronized
  have hl := lv_entry ([.int a]) (n := 1) (Nat.le_of_ble_eq_true rfl)
  rw [lg_entry_eq]
  generalize (lg_sl ([.int a]) ++ List.replicate (1 - (lg_sl ([.int a])).length) Slot.unset).toArray = ls at hl ⊢
  have hl : lv_has ls 1 [(0, .int a)] := hl

  refine lv_iload_n hx hb dX0_whole_0 rfl (lv_at hl 0 rfl) ?_
  refine vp_callSi (va_Run.run (va_runS (As := [.int a]) (rest := []) ⟨hx, hb, hml, hown, hts⟩ (metX3_reduce32 l a) (va_cwS 1 hts (lw_S q60 q61 q5 q62) rfl rfl rfl (by decide +kernel) ⟨Nat.le_of_ble_eq_true rfl, Nat.le_of_ble_eq_true rfl⟩) ⟨fun _ _ _ _ q => q, fun U hU hW => ⟨rfl, trivial⟩⟩ rfl rfl hl.1 rfl (lv_room (Nat.le_of_ble_eq_true rfl)) dX0_whole_1 ⟨Nat.le_of_ble_eq_true rfl, Nat.le_of_ble_eq_true rfl⟩)) (fun r_1 hr_1 => ?_)
  refine vp_callSi (va_Run.run (va_runS (As := [.int r_1]) (rest := []) ⟨hx, hb, hml, hown, hts⟩ (metX3_conditionalAddQ l r_1) (va_cwS 1 hts (lw_S q65 q66 q5 q67) rfl rfl rfl (by decide +kernel) ⟨Nat.le_of_ble_eq_true rfl, Nat.le_of_ble_eq_true rfl⟩) ⟨fun _ _ _ _ q => q, fun U hU hW => ⟨rfl, trivial⟩⟩ rfl rfl hl.1 rfl (lv_room (Nat.le_of_ble_eq_true rfl)) dX0_whole_4 ⟨Nat.le_of_ble_eq_true rfl, Nat.le_of_ble_eq_true rfl⟩)) (fun r_4 hr_4 => ?_)
  exact W.iret (v := r_4) hx hb hr (fun t ht hW => ⟨_, rfl, by rw [hr_4, hr_1]; rfl, ht⟩) (fun q h => by cases h) dX0_whole_7
set_option maxHeartbeats 4000000 in
set_option maxRecDepth 100000 in
theorem metX0_montgomery (l : Launch) (h0 : Nat) (a b : Int32) : Met l yX0_montgomery (ws_ yX0_montgomery cX0_montgomery 3 (some .int)) ({ frames := 2, cells := 0, slots := 0, locals := 41 }) (va_Pc [.ref h0, .int a, .int b] (fun _ => True)) (vp_Si (fun r => r = hmJ a b)) 0 0 (fun _ => False) := by
  refine Met.ofW (cc := cX0_montgomery) (maxL := 3) (ret := some .int) (by decide) rfl ?_
  intro p e s m args below meth c s₁ B hml hv
  obtain ⟨rfl, -⟩ := hv
  have hx := B.exec
  have hb := B.bytes
  have hr := B.returns
  have hts := atoms_spec (ws := ws_ yX0_montgomery cX0_montgomery 3 (some .int)) B.pre
  have hts : ∀ w ∈ lw_all, w.before _ s = true := fun w h => hts w (List.mem_cons_of_mem _ h)
  have hown : s.vm.findClass RX0 = some m.cls := findClass_of_methodNamed B.named
  have hlocks := B.notSynchronized
  have hl := lv_entry ([.ref h0, .int a, .int b]) (n := 3) (Nat.le_of_ble_eq_true rfl)
  rw [lg_entry_eq]
  generalize (lg_sl ([.ref h0, .int a, .int b]) ++ List.replicate (3 - (lg_sl ([.ref h0, .int a, .int b])).length) Slot.unset).toArray = ls at hl ⊢
  have hl : lv_has ls 3 [(0, .ref h0), (1, .int a), (2, .int b)] := hl

  refine lv_iload_n hx hb dX0_montgomery_0 rfl (lv_at hl 1 rfl) ?_
  refine vp_callSi (va_Run.run (va_runS (As := [.int a]) (rest := []) ⟨hx, hb, hml, hown, hts⟩ (metX0_fair l a) (va_cwS 1 hts (lw_S q29 q30 q2 q31) rfl rfl rfl (by decide +kernel) ⟨Nat.le_of_ble_eq_true rfl, Nat.le_of_ble_eq_true rfl⟩) ⟨fun _ _ _ _ q => q, fun U hU hW => ⟨rfl, trivial⟩⟩ rfl rfl hl.1 rfl (lv_room (Nat.le_of_ble_eq_true rfl)) dX0_montgomery_1 ⟨Nat.le_of_ble_eq_true rfl, Nat.le_of_ble_eq_true rfl⟩)) (fun r_1 hr_1 => ?_)
  refine lv_i2l hx hb dX0_montgomery_4 rfl ?_
  refine lv_iload_n hx hb dX0_montgomery_5 rfl (lv_at hl 2 rfl) ?_
  refine lv_i2l hx hb dX0_montgomery_6 rfl ?_
  refine lv_lmul hx hb dX0_montgomery_7 ?_
  refine lv_topl (fun x_8 ex_8 => ?_)
  refine vp_callSi (va_Run.run (va_runS (As := [.long x_8]) (rest := []) ⟨hx, hb, hml, hown, hts⟩ (metX3_montgomeryReduce l x_8) (va_cwS 1 hts (lw_S q52 q48 q5 q49) rfl rfl rfl (by decide +kernel) ⟨Nat.le_of_ble_eq_true rfl, Nat.le_of_ble_eq_true rfl⟩) ⟨fun _ _ _ _ q => q, fun U hU hW => ⟨rfl, trivial⟩⟩ rfl rfl hl.1 rfl (lv_room (Nat.le_of_ble_eq_true rfl)) dX0_montgomery_8 ⟨Nat.le_of_ble_eq_true rfl, Nat.le_of_ble_eq_true rfl⟩)) (fun r_8 hr_8 => ?_)
  refine vp_callSi (va_Run.run (va_runS (As := [.int r_8]) (rest := []) ⟨hx, hb, hml, hown, hts⟩ (metX0_whole l r_8) (va_cwS 1 hts (lw_S q57 q58 q2 q59) rfl rfl rfl (by decide +kernel) ⟨Nat.le_of_ble_eq_true rfl, Nat.le_of_ble_eq_true rfl⟩) ⟨fun _ _ _ _ q => q, fun U hU hW => ⟨rfl, trivial⟩⟩ rfl rfl hl.1 rfl (lv_room (Nat.le_of_ble_eq_true rfl)) dX0_montgomery_11 ⟨Nat.le_of_ble_eq_true rfl, Nat.le_of_ble_eq_true rfl⟩)) (fun r_11 hr_11 => ?_)
  exact W.iret (v := r_11) hx hb hr (fun t ht hW => ⟨_, rfl, by rw [hr_11, hr_8, ex_8, hr_1]; rfl, ht⟩) (fun q h => by cases h) dX0_montgomery_14
set_option maxHeartbeats 4000000 in
set_option maxRecDepth 100000 in
theorem metX0_brought (l : Launch) (h0 : Nat) (a : Int32) : Met l yX0_brought (ws_ yX0_brought cX0_brought 2 (some .int)) ({ frames := 2, cells := 0, slots := 0, locals := 41 }) (va_Pc [.ref h0, .int a] (fun _ => True)) (vp_Si (fun r => r = hbJ a)) 0 0 (fun _ => False) := by
  refine Met.ofW (cc := cX0_brought) (maxL := 2) (ret := some .int) (by decide) rfl ?_
  intro p e s m args below meth c s₁ B hml hv
  obtain ⟨rfl, -⟩ := hv
  have hx := B.exec
  have hb := B.bytes
  have hr := B.returns
  have hts := atoms_spec (ws := ws_ yX0_brought cX0_brought 2 (some .int)) B.pre
  have hts : ∀ w ∈ lw_all, w.before _ s = true := fun w h => hts w (List.mem_cons_of_mem _ h)
  have hown : s.vm.findClass RX0 = some m.cls := findClass_of_methodNamed B.named
  have hlocks := B.notSynchronized
  have hl := lv_entry ([.ref h0, .int a]) (n := 2) (Nat.le_of_ble_eq_true rfl)
  rw [lg_entry_eq]
  generalize (lg_sl ([.ref h0, .int a]) ++ List.replicate (2 - (lg_sl ([.ref h0, .int a])).length) Slot.unset).toArray = ls at hl ⊢
  have hl : lv_has ls 2 [(0, .ref h0), (1, .int a)] := hl

  refine lv_iload_n hx hb dX0_brought_0 rfl (lv_at hl 1 rfl) ?_
  refine lv_ldc hx hb hown (hts _ q164) dX0_brought_1 ?_
  refine lv_icmp_le (tgt := 10) hx hb dX0_brought_3 (by decide) (fun c_3 => ?_) (fun c_3 => ?_)
  · refine lv_iload_n hx hb dX0_brought_10 rfl (lv_at hl 1 rfl) ?_
    refine vp_callSi (va_Run.run (va_runS (As := [.int a]) (rest := []) ⟨hx, hb, hml, hown, hts⟩ (metX0_whole l a) (va_cwS 1 hts (lw_S q57 q58 q2 q59) rfl rfl rfl (by decide +kernel) ⟨Nat.le_of_ble_eq_true rfl, Nat.le_of_ble_eq_true rfl⟩) ⟨fun _ _ _ _ q => q, fun U hU hW => ⟨rfl, trivial⟩⟩ rfl rfl hl.1 rfl (lv_room (Nat.le_of_ble_eq_true rfl)) dX0_brought_11 ⟨Nat.le_of_ble_eq_true rfl, Nat.le_of_ble_eq_true rfl⟩)) (fun r_11 hr_11 => ?_)
    exact W.iret (v := r_11) hx hb hr (fun t ht hW => ⟨_, rfl, by rw [hr_11]; exact (if_pos c_3).symm, ht⟩) (fun q h => by cases h) dX0_brought_14
  · refine lv_iconst (v := -1) hx hb dX0_brought_6 (by decide) ?_
    refine lv_goto (tgt := 14) hx hb dX0_brought_7 (by decide) ?_
    exact W.iret (v := -1) hx hb hr (fun t ht hW => ⟨_, rfl, (if_neg c_3).symm, ht⟩) (fun q h => by cases h) dX0_brought_14
set_option maxHeartbeats 4000000 in
set_option maxRecDepth 100000 in
theorem metX1_montgomery (l : Launch) (h0 : Nat) (a b : Int32) : Met l yX1_montgomery (ws_ yX1_montgomery cX1_montgomery 7 (some .int)) ({ frames := 0, cells := 0, slots := 0, locals := 0 }) (va_Pc [.ref h0, .int a, .int b] (fun _ => True)) (vp_Si (fun r => r = mmJ a b)) 0 0 (fun _ => False) := by
  refine Met.ofW (cc := cX1_montgomery) (maxL := 7) (ret := some .int) (by decide) rfl ?_
  intro p e s m args below meth c s₁ B hml hv
  obtain ⟨rfl, -⟩ := hv
  have hx := B.exec
  have hb := B.bytes
  have hr := B.returns
  have hts := atoms_spec (ws := ws_ yX1_montgomery cX1_montgomery 7 (some .int)) B.pre
  have hts : ∀ w ∈ lw_all, w.before _ s = true := fun w h => hts w (List.mem_cons_of_mem _ h)
  have hown : s.vm.findClass RX1 = some m.cls := findClass_of_methodNamed B.named
  have hlocks := B.notSynchronized
  have hl := lv_entry ([.ref h0, .int a, .int b]) (n := 7) (Nat.le_of_ble_eq_true rfl)
  rw [lg_entry_eq]
  generalize (lg_sl ([.ref h0, .int a, .int b]) ++ List.replicate (7 - (lg_sl ([.ref h0, .int a, .int b])).length) Slot.unset).toArray = ls at hl ⊢
  have hl : lv_has ls 7 [(0, .ref h0), (1, .int a), (2, .int b)] := hl

  refine lv_iload_n hx hb dX1_montgomery_0 rfl (lv_at hl 1 rfl) ?_
  refine lv_ldc hx hb hown (hts _ q180) dX1_montgomery_1 ?_
  refine lv_iand hx hb dX1_montgomery_3 ?_
  refine lv_ldc hx hb hown (hts _ q181) dX1_montgomery_4 ?_
  refine lv_irem hx hb dX1_montgomery_6 (by decide) ?_
  refine lv_i2l hx hb dX1_montgomery_7 rfl ?_
  refine lv_topl (fun v_8 ev_8 => ?_)
  refine lv_lstore_n (lv' := [(3, .long v_8), (0, .ref h0), (1, .int a), (2, .int b)]) hx hb dX1_montgomery_8 rfl hl (by decide) rfl (fun ls hl => ?_)
  refine lv_iload_n hx hb dX1_montgomery_9 rfl (lv_at hl 3 rfl) ?_
  refine lv_ldc hx hb hown (hts _ q181) dX1_montgomery_10 ?_
  refine lv_irem hx hb dX1_montgomery_12 (by decide) ?_
  refine lv_i2l hx hb dX1_montgomery_13 rfl ?_
  refine lv_topl (fun v_14 ev_14 => ?_)
  refine lv_lstore (lv' := [(5, .long v_14), (3, .long v_8), (0, .ref h0), (1, .int a), (2, .int b)]) hx hb dX1_montgomery_14 hl (by decide) rfl (fun ls hl => ?_)
  refine lv_lload hx hb dX1_montgomery_16 (lv_at hl 0 rfl) ?_
  refine lv_lconst (v := 0) hx hb dX1_montgomery_18 (by decide) ?_
  refine W.lcmp hx hb dX1_montgomery_19 ?_
  refine lv_if_ge (tgt := 31) hx hb dX1_montgomery_20 (by decide) (fun c_20 => ?_) (fun c_20 => ?_)
  · skip
    refine lv_lload_n hx hb dX1_montgomery_31 rfl (lv_at hl 1 rfl) ?_
    refine lv_lload hx hb dX1_montgomery_32 (lv_at hl 0 rfl) ?_
    refine lv_lmul hx hb dX1_montgomery_34 ?_
    refine lv_ldc2 hx hb hown (hts _ q190) dX1_montgomery_35 ?_
    refine lv_lrem hx hb dX1_montgomery_38 (by decide) ?_
    refine lv_ldc2 hx hb hown (hts _ q210) dX1_montgomery_39 ?_
    refine lv_lmul hx hb dX1_montgomery_42 ?_
    refine lv_ldc2 hx hb hown (hts _ q190) dX1_montgomery_43 ?_
    refine lv_lrem hx hb dX1_montgomery_46 (by decide) ?_
    refine lv_l2i hx hb dX1_montgomery_47 rfl ?_
    exact W.iret hx hb hr (fun t ht hW => ⟨_, rfl, by subst ev_8; subst ev_14; unfold mmJ myJ; rw [if_pos (show 0 ≤ lg_cmp (remJ b).toInt64 0 from c_20)]; rfl, ht⟩) (fun q h => by cases h) dX1_montgomery_48
  · skip
    refine lv_lload hx hb dX1_montgomery_23 (lv_at hl 0 rfl) ?_
    refine lv_ldc2 hx hb hown (hts _ q190) dX1_montgomery_25 ?_
    refine lv_ladd hx hb dX1_montgomery_28 ?_
    refine lv_topl (fun v_29 ev_29 => ?_)
    refine lv_lstore (lv' := [(5, .long v_29), (3, .long v_8), (0, .ref h0), (1, .int a), (2, .int b)]) hx hb dX1_montgomery_29 hl (by decide) rfl (fun ls hl => ?_)
    refine lv_lload_n hx hb dX1_montgomery_31 rfl (lv_at hl 1 rfl) ?_
    refine lv_lload hx hb dX1_montgomery_32 (lv_at hl 0 rfl) ?_
    refine lv_lmul hx hb dX1_montgomery_34 ?_
    refine lv_ldc2 hx hb hown (hts _ q190) dX1_montgomery_35 ?_
    refine lv_lrem hx hb dX1_montgomery_38 (by decide) ?_
    refine lv_ldc2 hx hb hown (hts _ q210) dX1_montgomery_39 ?_
    refine lv_lmul hx hb dX1_montgomery_42 ?_
    refine lv_ldc2 hx hb hown (hts _ q190) dX1_montgomery_43 ?_
    refine lv_lrem hx hb dX1_montgomery_46 (by decide) ?_
    refine lv_l2i hx hb dX1_montgomery_47 rfl ?_
    exact W.iret hx hb hr (fun t ht hW => ⟨_, rfl, by subst ev_29; subst ev_8; subst ev_14; unfold mmJ myJ; rw [if_neg (show ¬ 0 ≤ lg_cmp (remJ b).toInt64 0 from c_20)]; rfl, ht⟩) (fun q h => by cases h) dX1_montgomery_48
set_option maxHeartbeats 4000000 in
set_option maxRecDepth 100000 in
theorem metX1_brought (l : Launch) (h0 : Nat) (a : Int32) : Met l yX1_brought (ws_ yX1_brought cX1_brought 3 (some .int)) ({ frames := 0, cells := 0, slots := 0, locals := 0 }) (va_Pc [.ref h0, .int a] (fun _ => True)) (vp_Si (fun r => r = mbJ a)) 0 0 (fun _ => False) := by
  refine Met.ofW (cc := cX1_brought) (maxL := 3) (ret := some .int) (by decide) rfl ?_
  intro p e s m args below meth c s₁ B hml hv
  obtain ⟨rfl, -⟩ := hv
  have hx := B.exec
  have hb := B.bytes
  have hr := B.returns
  have hts := atoms_spec (ws := ws_ yX1_brought cX1_brought 3 (some .int)) B.pre
  have hts : ∀ w ∈ lw_all, w.before _ s = true := fun w h => hts w (List.mem_cons_of_mem _ h)
  have hown : s.vm.findClass RX1 = some m.cls := findClass_of_methodNamed B.named
  have hlocks := B.notSynchronized
  have hl := lv_entry ([.ref h0, .int a]) (n := 3) (Nat.le_of_ble_eq_true rfl)
  rw [lg_entry_eq]
  generalize (lg_sl ([.ref h0, .int a]) ++ List.replicate (3 - (lg_sl ([.ref h0, .int a])).length) Slot.unset).toArray = ls at hl ⊢
  have hl : lv_has ls 3 [(0, .ref h0), (1, .int a)] := hl

  refine lv_iload_n hx hb dX1_brought_0 rfl (lv_at hl 1 rfl) ?_
  refine lv_ldc hx hb hown (hts _ q215) dX1_brought_1 ?_
  refine lv_icmp_le (tgt := 8) hx hb dX1_brought_3 (by decide) (fun c_3 => ?_) (fun c_3 => ?_)
  · skip
    refine lv_iload_n hx hb dX1_brought_8 rfl (lv_at hl 1 rfl) ?_
    refine lv_ldc hx hb hown (hts _ q181) dX1_brought_9 ?_
    refine lv_irem hx hb dX1_brought_11 (by decide) ?_
    refine lv_topi (fun v_12 ev_12 => ?_)
    refine lv_istore_n (lv' := [(2, .int v_12), (0, .ref h0), (1, .int a)]) hx hb dX1_brought_12 rfl hl (by decide) rfl (fun ls hl => ?_)
    refine lv_iload_n hx hb dX1_brought_13 rfl (lv_at hl 0 rfl) ?_
    refine lv_if_ge (tgt := 24) hx hb dX1_brought_14 (by decide) (fun c_14 => ?_) (fun c_14 => ?_)
    · skip
      refine lv_iload_n hx hb dX1_brought_24 rfl (lv_at hl 0 rfl) ?_
      exact W.iret (v := v_12) hx hb hr (fun t ht hW => ⟨_, rfl, by subst ev_12; unfold mbJ; rw [if_pos c_3, if_pos (show 0 ≤ remJ a from c_14)]; rfl, ht⟩) (fun q h => by cases h) dX1_brought_25
    · skip
      refine lv_iload_n hx hb dX1_brought_17 rfl (lv_at hl 0 rfl) ?_
      refine lv_ldc hx hb hown (hts _ q181) dX1_brought_18 ?_
      refine lv_iadd hx hb dX1_brought_20 ?_
      refine lv_goto (tgt := 25) hx hb dX1_brought_21 (by decide) ?_
      exact W.iret hx hb hr (fun t ht hW => ⟨_, rfl, by subst ev_12; unfold mbJ; rw [if_pos c_3, if_neg (show ¬ 0 ≤ remJ a from c_14)]; rfl, ht⟩) (fun q h => by cases h) dX1_brought_25
  · skip
    refine lv_iconst (v := -1) hx hb dX1_brought_6 (by decide) ?_
    exact W.iret (v := -1) hx hb hr (fun t ht hW => ⟨_, rfl, by unfold mbJ; rw [if_neg c_3], ht⟩) (fun q h => by cases h) dX1_brought_7
end
section
/-! Decompose and UseHint: what the two texts compute (own) -/
theorem ar_msk (x : Int32) {m : Int32} (k : Nat) (hk : k ≤ 30) (hm : m.toBitVec.toNat = 2 ^ k - 1) : (x &&& m).toInt = x.toInt % 2 ^ k := by
  have e := pk_and x k hm
  have hlt : x.toBitVec.toNat < 2 ^ 32 := x.toBitVec.isLt
  have hx : x.toInt = if 2 * x.toBitVec.toNat < 2 ^ 32 then (x.toBitVec.toNat : Int) else (x.toBitVec.toNat : Int) - (2 ^ 32 : Nat) := BitVec.toInt_eq_toNat_cond _
  have hb : x.toBitVec.toNat % 2 ^ k < 2 ^ k := Nat.mod_lt _ (Nat.two_pow_pos k)
  have hb2 : 2 ^ k ≤ 2 ^ 30 := Nat.pow_le_pow_right (by decide) hk
  rw [e, nI_toInt (by omega)]
  have hd : ((2 : Int) ^ k) ∣ ((2 ^ 32 : Nat) : Int) := by
    have : (2 ^ k : Nat) ∣ 2 ^ 32 := Nat.pow_dvd_pow 2 (by omega)
    exact_mod_cast Int.natCast_dvd_natCast.mpr this
  have hc : ((x.toBitVec.toNat % 2 ^ k : Nat) : Int) = (x.toBitVec.toNat : Int) % 2 ^ k := by
    rw [Int.natCast_emod]
    norm_cast
  rw [hc, hx]
  split
  · rfl
  · rw [Int.sub_emod, Int.emod_eq_zero_of_dvd hd, Int.sub_zero, Int.emod_emod]
def lo0 (g x : Int) : Int := if x % (2 * g) > g then x % (2 * g) - 2 * g else x % (2 * g)
def hiS (g x : Int) : Int := if x - lo0 g x = 8380416 then 0 else (x - lo0 g x) / (2 * g)
def loS (g x : Int) : Int := if x - lo0 g x = 8380416 then lo0 g x - 1 else lo0 g x
theorem lo_at {g x u : Int} (hg : 0 < g) (h1 : 2 * g * u - g < x) (h2 : x ≤ 2 * g * u + g) : lo0 g x = x - 2 * g * u := by
  unfold lo0
  by_cases h : 2 * g * u ≤ x
  · have e : x % (2 * g) = x - 2 * g * u := by
      rw [← Int.emod_eq_of_lt (a := x - 2 * g * u) (b := 2 * g) (by omega) (by omega), Int.sub_mul_emod_self_left]
    rw [e, if_neg (by omega)]
  · have e : x % (2 * g) = x - 2 * g * u + 2 * g := by
      rw [← Int.emod_eq_of_lt (a := x - 2 * g * u + 2 * g) (b := 2 * g) (by omega) (by omega), Int.add_emod_right, Int.sub_mul_emod_self_left]
    rw [e, if_pos (by omega)]
    omega
theorem hs_at {g x u M : Int} (hg : 0 < g) (hM : 2 * g * M = 8380416) (h1 : 2 * g * u - g < x) (h2 : x ≤ 2 * g * u + g) : hiS g x = (if u = M then 0 else u) ∧ loS g x = if u = M then x - 8380416 - 1 else x - 2 * g * u := by
  have e := lo_at hg h1 h2
  unfold hiS loS
  rw [e]
  have e2 : x - (x - 2 * g * u) = 2 * g * u := by omega
  rw [e2]
  by_cases h : u = M
  · have hc : 2 * g * u = 8380416 := by rw [h]; exact hM
    exact ⟨by rw [if_pos hc, if_pos h], by rw [if_pos hc, if_pos h, hc]⟩
  · have hn : ¬ 2 * g * u = 8380416 := fun q => h (Int.eq_of_mul_eq_mul_left (a := 2 * g) (by omega) (q.trans hM.symm))
    exact ⟨by rw [if_neg hn, if_neg h]; exact Int.mul_ediv_cancel_left _ (by omega), by rw [if_neg hn, if_neg h]⟩
end
section
theorem iv17 {u : Int} (h0 : 0 ≤ u) (h1 : u ≤ 16) : u = 0 ∨ u = 1 ∨ u = 2 ∨ u = 3 ∨ u = 4 ∨ u = 5 ∨ u = 6 ∨ u = 7 ∨ u = 8 ∨ u = 9 ∨ u = 10 ∨ u = 11 ∨ u = 12 ∨ u = 13 ∨ u = 14 ∨ u = 15 ∨ u = 16 := by
  rcases (show u = 0 ∨ 1 ≤ u by omega) with h | a1
  · exact Or.inl h
  rcases (show u = 1 ∨ 2 ≤ u by omega) with h | a2
  · exact Or.inr (Or.inl h)
  rcases (show u = 2 ∨ 3 ≤ u by omega) with h | a3
  · exact Or.inr (Or.inr (Or.inl h))
  rcases (show u = 3 ∨ 4 ≤ u by omega) with h | a4
  · exact Or.inr (Or.inr (Or.inr (Or.inl h)))
  rcases (show u = 4 ∨ 5 ≤ u by omega) with h | a5
  · exact Or.inr (Or.inr (Or.inr (Or.inr (Or.inl h))))
  rcases (show u = 5 ∨ 6 ≤ u by omega) with h | a6
  · exact Or.inr (Or.inr (Or.inr (Or.inr (Or.inr (Or.inl h)))))
  rcases (show u = 6 ∨ 7 ≤ u by omega) with h | a7
  · exact Or.inr (Or.inr (Or.inr (Or.inr (Or.inr (Or.inr (Or.inl h))))))
  rcases (show u = 7 ∨ 8 ≤ u by omega) with h | a8
  · exact Or.inr (Or.inr (Or.inr (Or.inr (Or.inr (Or.inr (Or.inr (Or.inl h)))))))
  rcases (show u = 8 ∨ 9 ≤ u by omega) with h | a9
  · exact Or.inr (Or.inr (Or.inr (Or.inr (Or.inr (Or.inr (Or.inr (Or.inr (Or.inl h))))))))
  rcases (show u = 9 ∨ 10 ≤ u by omega) with h | a10
  · exact Or.inr (Or.inr (Or.inr (Or.inr (Or.inr (Or.inr (Or.inr (Or.inr (Or.inr (Or.inl h)))))))))
  rcases (show u = 10 ∨ 11 ≤ u by omega) with h | a11
  · exact Or.inr (Or.inr (Or.inr (Or.inr (Or.inr (Or.inr (Or.inr (Or.inr (Or.inr (Or.inr (Or.inl h))))))))))
  rcases (show u = 11 ∨ 12 ≤ u by omega) with h | a12
  · exact Or.inr (Or.inr (Or.inr (Or.inr (Or.inr (Or.inr (Or.inr (Or.inr (Or.inr (Or.inr (Or.inr (Or.inl h)))))))))))
  rcases (show u = 12 ∨ 13 ≤ u by omega) with h | a13
  · exact Or.inr (Or.inr (Or.inr (Or.inr (Or.inr (Or.inr (Or.inr (Or.inr (Or.inr (Or.inr (Or.inr (Or.inr (Or.inl h))))))))))))
  rcases (show u = 13 ∨ 14 ≤ u by omega) with h | a14
  · exact Or.inr (Or.inr (Or.inr (Or.inr (Or.inr (Or.inr (Or.inr (Or.inr (Or.inr (Or.inr (Or.inr (Or.inr (Or.inr (Or.inl h)))))))))))))
  rcases (show u = 14 ∨ 15 ≤ u by omega) with h | a15
  · exact Or.inr (Or.inr (Or.inr (Or.inr (Or.inr (Or.inr (Or.inr (Or.inr (Or.inr (Or.inr (Or.inr (Or.inr (Or.inr (Or.inr (Or.inl h))))))))))))))
  rcases (show u = 15 ∨ 16 ≤ u by omega) with h | a16
  · exact Or.inr (Or.inr (Or.inr (Or.inr (Or.inr (Or.inr (Or.inr (Or.inr (Or.inr (Or.inr (Or.inr (Or.inr (Or.inr (Or.inr (Or.inr (Or.inl h)))))))))))))))
  exact Or.inr (Or.inr (Or.inr (Or.inr (Or.inr (Or.inr (Or.inr (Or.inr (Or.inr (Or.inr (Or.inr (Or.inr (Or.inr (Or.inr (Or.inr (Or.inr ((show u = 16 by omega)))))))))))))))))
theorem iv45 {u : Int} (h0 : 0 ≤ u) (h1 : u ≤ 44) : u = 0 ∨ u = 1 ∨ u = 2 ∨ u = 3 ∨ u = 4 ∨ u = 5 ∨ u = 6 ∨ u = 7 ∨ u = 8 ∨ u = 9 ∨ u = 10 ∨ u = 11 ∨ u = 12 ∨ u = 13 ∨ u = 14 ∨ u = 15 ∨ u = 16 ∨ u = 17 ∨ u = 18 ∨ u = 19 ∨ u = 20 ∨ u = 21 ∨ u = 22 ∨ u = 23 ∨ u = 24 ∨ u = 25 ∨ u = 26 ∨ u = 27 ∨ u = 28 ∨ u = 29 ∨ u = 30 ∨ u = 31 ∨ u = 32 ∨ u = 33 ∨ u = 34 ∨ u = 35 ∨ u = 36 ∨ u = 37 ∨ u = 38 ∨ u = 39 ∨ u = 40 ∨ u = 41 ∨ u = 42 ∨ u = 43 ∨ u = 44 := by
  rcases (show u = 0 ∨ 1 ≤ u by omega) with h | a1
  · exact Or.inl h
  rcases (show u = 1 ∨ 2 ≤ u by omega) with h | a2
  · exact Or.inr (Or.inl h)
  rcases (show u = 2 ∨ 3 ≤ u by omega) with h | a3
  · exact Or.inr (Or.inr (Or.inl h))
  rcases (show u = 3 ∨ 4 ≤ u by omega) with h | a4
  · exact Or.inr (Or.inr (Or.inr (Or.inl h)))
  rcases (show u = 4 ∨ 5 ≤ u by omega) with h | a5
  · exact Or.inr (Or.inr (Or.inr (Or.inr (Or.inl h))))
  rcases (show u = 5 ∨ 6 ≤ u by omega) with h | a6
  · exact Or.inr (Or.inr (Or.inr (Or.inr (Or.inr (Or.inl h)))))
  rcases (show u = 6 ∨ 7 ≤ u by omega) with h | a7
  · exact Or.inr (Or.inr (Or.inr (Or.inr (Or.inr (Or.inr (Or.inl h))))))
  rcases (show u = 7 ∨ 8 ≤ u by omega) with h | a8
  · exact Or.inr (Or.inr (Or.inr (Or.inr (Or.inr (Or.inr (Or.inr (Or.inl h)))))))
  rcases (show u = 8 ∨ 9 ≤ u by omega) with h | a9
  · exact Or.inr (Or.inr (Or.inr (Or.inr (Or.inr (Or.inr (Or.inr (Or.inr (Or.inl h))))))))
  rcases (show u = 9 ∨ 10 ≤ u by omega) with h | a10
  · exact Or.inr (Or.inr (Or.inr (Or.inr (Or.inr (Or.inr (Or.inr (Or.inr (Or.inr (Or.inl h)))))))))
  rcases (show u = 10 ∨ 11 ≤ u by omega) with h | a11
  · exact Or.inr (Or.inr (Or.inr (Or.inr (Or.inr (Or.inr (Or.inr (Or.inr (Or.inr (Or.inr (Or.inl h))))))))))
  rcases (show u = 11 ∨ 12 ≤ u by omega) with h | a12
  · exact Or.inr (Or.inr (Or.inr (Or.inr (Or.inr (Or.inr (Or.inr (Or.inr (Or.inr (Or.inr (Or.inr (Or.inl h)))))))))))
  rcases (show u = 12 ∨ 13 ≤ u by omega) with h | a13
  · exact Or.inr (Or.inr (Or.inr (Or.inr (Or.inr (Or.inr (Or.inr (Or.inr (Or.inr (Or.inr (Or.inr (Or.inr (Or.inl h))))))))))))
  rcases (show u = 13 ∨ 14 ≤ u by omega) with h | a14
  · exact Or.inr (Or.inr (Or.inr (Or.inr (Or.inr (Or.inr (Or.inr (Or.inr (Or.inr (Or.inr (Or.inr (Or.inr (Or.inr (Or.inl h)))))))))))))
  rcases (show u = 14 ∨ 15 ≤ u by omega) with h | a15
  · exact Or.inr (Or.inr (Or.inr (Or.inr (Or.inr (Or.inr (Or.inr (Or.inr (Or.inr (Or.inr (Or.inr (Or.inr (Or.inr (Or.inr (Or.inl h))))))))))))))
  rcases (show u = 15 ∨ 16 ≤ u by omega) with h | a16
  · exact Or.inr (Or.inr (Or.inr (Or.inr (Or.inr (Or.inr (Or.inr (Or.inr (Or.inr (Or.inr (Or.inr (Or.inr (Or.inr (Or.inr (Or.inr (Or.inl h)))))))))))))))
  rcases (show u = 16 ∨ 17 ≤ u by omega) with h | a17
  · exact Or.inr (Or.inr (Or.inr (Or.inr (Or.inr (Or.inr (Or.inr (Or.inr (Or.inr (Or.inr (Or.inr (Or.inr (Or.inr (Or.inr (Or.inr (Or.inr (Or.inl h))))))))))))))))
  rcases (show u = 17 ∨ 18 ≤ u by omega) with h | a18
  · exact Or.inr (Or.inr (Or.inr (Or.inr (Or.inr (Or.inr (Or.inr (Or.inr (Or.inr (Or.inr (Or.inr (Or.inr (Or.inr (Or.inr (Or.inr (Or.inr (Or.inr (Or.inl h)))))))))))))))))
  rcases (show u = 18 ∨ 19 ≤ u by omega) with h | a19
  · exact Or.inr (Or.inr (Or.inr (Or.inr (Or.inr (Or.inr (Or.inr (Or.inr (Or.inr (Or.inr (Or.inr (Or.inr (Or.inr (Or.inr (Or.inr (Or.inr (Or.inr (Or.inr (Or.inl h))))))))))))))))))
  rcases (show u = 19 ∨ 20 ≤ u by omega) with h | a20
  · exact Or.inr (Or.inr (Or.inr (Or.inr (Or.inr (Or.inr (Or.inr (Or.inr (Or.inr (Or.inr (Or.inr (Or.inr (Or.inr (Or.inr (Or.inr (Or.inr (Or.inr (Or.inr (Or.inr (Or.inl h)))))))))))))))))))
  rcases (show u = 20 ∨ 21 ≤ u by omega) with h | a21
  · exact Or.inr (Or.inr (Or.inr (Or.inr (Or.inr (Or.inr (Or.inr (Or.inr (Or.inr (Or.inr (Or.inr (Or.inr (Or.inr (Or.inr (Or.inr (Or.inr (Or.inr (Or.inr (Or.inr (Or.inr (Or.inl h))))))))))))))))))))
  rcases (show u = 21 ∨ 22 ≤ u by omega) with h | a22
  · exact Or.inr (Or.inr (Or.inr (Or.inr (Or.inr (Or.inr (Or.inr (Or.inr (Or.inr (Or.inr (Or.inr (Or.inr (Or.inr (Or.inr (Or.inr (Or.inr (Or.inr (Or.inr (Or.inr (Or.inr (Or.inr (Or.inl h)))))))))))))))))))))
  rcases (show u = 22 ∨ 23 ≤ u by omega) with h | a23
  · exact Or.inr (Or.inr (Or.inr (Or.inr (Or.inr (Or.inr (Or.inr (Or.inr (Or.inr (Or.inr (Or.inr (Or.inr (Or.inr (Or.inr (Or.inr (Or.inr (Or.inr (Or.inr (Or.inr (Or.inr (Or.inr (Or.inr (Or.inl h))))))))))))))))))))))
  rcases (show u = 23 ∨ 24 ≤ u by omega) with h | a24
  · exact Or.inr (Or.inr (Or.inr (Or.inr (Or.inr (Or.inr (Or.inr (Or.inr (Or.inr (Or.inr (Or.inr (Or.inr (Or.inr (Or.inr (Or.inr (Or.inr (Or.inr (Or.inr (Or.inr (Or.inr (Or.inr (Or.inr (Or.inr (Or.inl h)))))))))))))))))))))))
  rcases (show u = 24 ∨ 25 ≤ u by omega) with h | a25
  · exact Or.inr (Or.inr (Or.inr (Or.inr (Or.inr (Or.inr (Or.inr (Or.inr (Or.inr (Or.inr (Or.inr (Or.inr (Or.inr (Or.inr (Or.inr (Or.inr (Or.inr (Or.inr (Or.inr (Or.inr (Or.inr (Or.inr (Or.inr (Or.inr (Or.inl h))))))))))))))))))))))))
  rcases (show u = 25 ∨ 26 ≤ u by omega) with h | a26
  · exact Or.inr (Or.inr (Or.inr (Or.inr (Or.inr (Or.inr (Or.inr (Or.inr (Or.inr (Or.inr (Or.inr (Or.inr (Or.inr (Or.inr (Or.inr (Or.inr (Or.inr (Or.inr (Or.inr (Or.inr (Or.inr (Or.inr (Or.inr (Or.inr (Or.inr (Or.inl h)))))))))))))))))))))))))
  rcases (show u = 26 ∨ 27 ≤ u by omega) with h | a27
  · exact Or.inr (Or.inr (Or.inr (Or.inr (Or.inr (Or.inr (Or.inr (Or.inr (Or.inr (Or.inr (Or.inr (Or.inr (Or.inr (Or.inr (Or.inr (Or.inr (Or.inr (Or.inr (Or.inr (Or.inr (Or.inr (Or.inr (Or.inr (Or.inr (Or.inr (Or.inr (Or.inl h))))))))))))))))))))))))))
  rcases (show u = 27 ∨ 28 ≤ u by omega) with h | a28
  · exact Or.inr (Or.inr (Or.inr (Or.inr (Or.inr (Or.inr (Or.inr (Or.inr (Or.inr (Or.inr (Or.inr (Or.inr (Or.inr (Or.inr (Or.inr (Or.inr (Or.inr (Or.inr (Or.inr (Or.inr (Or.inr (Or.inr (Or.inr (Or.inr (Or.inr (Or.inr (Or.inr (Or.inl h)))))))))))))))))))))))))))
  rcases (show u = 28 ∨ 29 ≤ u by omega) with h | a29
  · exact Or.inr (Or.inr (Or.inr (Or.inr (Or.inr (Or.inr (Or.inr (Or.inr (Or.inr (Or.inr (Or.inr (Or.inr (Or.inr (Or.inr (Or.inr (Or.inr (Or.inr (Or.inr (Or.inr (Or.inr (Or.inr (Or.inr (Or.inr (Or.inr (Or.inr (Or.inr (Or.inr (Or.inr (Or.inl h))))))))))))))))))))))))))))
  rcases (show u = 29 ∨ 30 ≤ u by omega) with h | a30
  · exact Or.inr (Or.inr (Or.inr (Or.inr (Or.inr (Or.inr (Or.inr (Or.inr (Or.inr (Or.inr (Or.inr (Or.inr (Or.inr (Or.inr (Or.inr (Or.inr (Or.inr (Or.inr (Or.inr (Or.inr (Or.inr (Or.inr (Or.inr (Or.inr (Or.inr (Or.inr (Or.inr (Or.inr (Or.inr (Or.inl h)))))))))))))))))))))))))))))
  rcases (show u = 30 ∨ 31 ≤ u by omega) with h | a31
  · exact Or.inr (Or.inr (Or.inr (Or.inr (Or.inr (Or.inr (Or.inr (Or.inr (Or.inr (Or.inr (Or.inr (Or.inr (Or.inr (Or.inr (Or.inr (Or.inr (Or.inr (Or.inr (Or.inr (Or.inr (Or.inr (Or.inr (Or.inr (Or.inr (Or.inr (Or.inr (Or.inr (Or.inr (Or.inr (Or.inr (Or.inl h))))))))))))))))))))))))))))))
  rcases (show u = 31 ∨ 32 ≤ u by omega) with h | a32
  · exact Or.inr (Or.inr (Or.inr (Or.inr (Or.inr (Or.inr (Or.inr (Or.inr (Or.inr (Or.inr (Or.inr (Or.inr (Or.inr (Or.inr (Or.inr (Or.inr (Or.inr (Or.inr (Or.inr (Or.inr (Or.inr (Or.inr (Or.inr (Or.inr (Or.inr (Or.inr (Or.inr (Or.inr (Or.inr (Or.inr (Or.inr (Or.inl h)))))))))))))))))))))))))))))))
  rcases (show u = 32 ∨ 33 ≤ u by omega) with h | a33
  · exact Or.inr (Or.inr (Or.inr (Or.inr (Or.inr (Or.inr (Or.inr (Or.inr (Or.inr (Or.inr (Or.inr (Or.inr (Or.inr (Or.inr (Or.inr (Or.inr (Or.inr (Or.inr (Or.inr (Or.inr (Or.inr (Or.inr (Or.inr (Or.inr (Or.inr (Or.inr (Or.inr (Or.inr (Or.inr (Or.inr (Or.inr (Or.inr (Or.inl h))))))))))))))))))))))))))))))))
  rcases (show u = 33 ∨ 34 ≤ u by omega) with h | a34
  · exact Or.inr (Or.inr (Or.inr (Or.inr (Or.inr (Or.inr (Or.inr (Or.inr (Or.inr (Or.inr (Or.inr (Or.inr (Or.inr (Or.inr (Or.inr (Or.inr (Or.inr (Or.inr (Or.inr (Or.inr (Or.inr (Or.inr (Or.inr (Or.inr (Or.inr (Or.inr (Or.inr (Or.inr (Or.inr (Or.inr (Or.inr (Or.inr (Or.inr (Or.inl h)))))))))))))))))))))))))))))))))
  rcases (show u = 34 ∨ 35 ≤ u by omega) with h | a35
  · exact Or.inr (Or.inr (Or.inr (Or.inr (Or.inr (Or.inr (Or.inr (Or.inr (Or.inr (Or.inr (Or.inr (Or.inr (Or.inr (Or.inr (Or.inr (Or.inr (Or.inr (Or.inr (Or.inr (Or.inr (Or.inr (Or.inr (Or.inr (Or.inr (Or.inr (Or.inr (Or.inr (Or.inr (Or.inr (Or.inr (Or.inr (Or.inr (Or.inr (Or.inr (Or.inl h))))))))))))))))))))))))))))))))))
  rcases (show u = 35 ∨ 36 ≤ u by omega) with h | a36
  · exact Or.inr (Or.inr (Or.inr (Or.inr (Or.inr (Or.inr (Or.inr (Or.inr (Or.inr (Or.inr (Or.inr (Or.inr (Or.inr (Or.inr (Or.inr (Or.inr (Or.inr (Or.inr (Or.inr (Or.inr (Or.inr (Or.inr (Or.inr (Or.inr (Or.inr (Or.inr (Or.inr (Or.inr (Or.inr (Or.inr (Or.inr (Or.inr (Or.inr (Or.inr (Or.inr (Or.inl h)))))))))))))))))))))))))))))))))))
  rcases (show u = 36 ∨ 37 ≤ u by omega) with h | a37
  · exact Or.inr (Or.inr (Or.inr (Or.inr (Or.inr (Or.inr (Or.inr (Or.inr (Or.inr (Or.inr (Or.inr (Or.inr (Or.inr (Or.inr (Or.inr (Or.inr (Or.inr (Or.inr (Or.inr (Or.inr (Or.inr (Or.inr (Or.inr (Or.inr (Or.inr (Or.inr (Or.inr (Or.inr (Or.inr (Or.inr (Or.inr (Or.inr (Or.inr (Or.inr (Or.inr (Or.inr (Or.inl h))))))))))))))))))))))))))))))))))))
  rcases (show u = 37 ∨ 38 ≤ u by omega) with h | a38
  · exact Or.inr (Or.inr (Or.inr (Or.inr (Or.inr (Or.inr (Or.inr (Or.inr (Or.inr (Or.inr (Or.inr (Or.inr (Or.inr (Or.inr (Or.inr (Or.inr (Or.inr (Or.inr (Or.inr (Or.inr (Or.inr (Or.inr (Or.inr (Or.inr (Or.inr (Or.inr (Or.inr (Or.inr (Or.inr (Or.inr (Or.inr (Or.inr (Or.inr (Or.inr (Or.inr (Or.inr (Or.inr (Or.inl h)))))))))))))))))))))))))))))))))))))
  rcases (show u = 38 ∨ 39 ≤ u by omega) with h | a39
  · exact Or.inr (Or.inr (Or.inr (Or.inr (Or.inr (Or.inr (Or.inr (Or.inr (Or.inr (Or.inr (Or.inr (Or.inr (Or.inr (Or.inr (Or.inr (Or.inr (Or.inr (Or.inr (Or.inr (Or.inr (Or.inr (Or.inr (Or.inr (Or.inr (Or.inr (Or.inr (Or.inr (Or.inr (Or.inr (Or.inr (Or.inr (Or.inr (Or.inr (Or.inr (Or.inr (Or.inr (Or.inr (Or.inr (Or.inl h))))))))))))))))))))))))))))))))))))))
  rcases (show u = 39 ∨ 40 ≤ u by omega) with h | a40
  · exact Or.inr (Or.inr (Or.inr (Or.inr (Or.inr (Or.inr (Or.inr (Or.inr (Or.inr (Or.inr (Or.inr (Or.inr (Or.inr (Or.inr (Or.inr (Or.inr (Or.inr (Or.inr (Or.inr (Or.inr (Or.inr (Or.inr (Or.inr (Or.inr (Or.inr (Or.inr (Or.inr (Or.inr (Or.inr (Or.inr (Or.inr (Or.inr (Or.inr (Or.inr (Or.inr (Or.inr (Or.inr (Or.inr (Or.inr (Or.inl h)))))))))))))))))))))))))))))))))))))))
  rcases (show u = 40 ∨ 41 ≤ u by omega) with h | a41
  · exact Or.inr (Or.inr (Or.inr (Or.inr (Or.inr (Or.inr (Or.inr (Or.inr (Or.inr (Or.inr (Or.inr (Or.inr (Or.inr (Or.inr (Or.inr (Or.inr (Or.inr (Or.inr (Or.inr (Or.inr (Or.inr (Or.inr (Or.inr (Or.inr (Or.inr (Or.inr (Or.inr (Or.inr (Or.inr (Or.inr (Or.inr (Or.inr (Or.inr (Or.inr (Or.inr (Or.inr (Or.inr (Or.inr (Or.inr (Or.inr (Or.inl h))))))))))))))))))))))))))))))))))))))))
  rcases (show u = 41 ∨ 42 ≤ u by omega) with h | a42
  · exact Or.inr (Or.inr (Or.inr (Or.inr (Or.inr (Or.inr (Or.inr (Or.inr (Or.inr (Or.inr (Or.inr (Or.inr (Or.inr (Or.inr (Or.inr (Or.inr (Or.inr (Or.inr (Or.inr (Or.inr (Or.inr (Or.inr (Or.inr (Or.inr (Or.inr (Or.inr (Or.inr (Or.inr (Or.inr (Or.inr (Or.inr (Or.inr (Or.inr (Or.inr (Or.inr (Or.inr (Or.inr (Or.inr (Or.inr (Or.inr (Or.inr (Or.inl h)))))))))))))))))))))))))))))))))))))))))
  rcases (show u = 42 ∨ 43 ≤ u by omega) with h | a43
  · exact Or.inr (Or.inr (Or.inr (Or.inr (Or.inr (Or.inr (Or.inr (Or.inr (Or.inr (Or.inr (Or.inr (Or.inr (Or.inr (Or.inr (Or.inr (Or.inr (Or.inr (Or.inr (Or.inr (Or.inr (Or.inr (Or.inr (Or.inr (Or.inr (Or.inr (Or.inr (Or.inr (Or.inr (Or.inr (Or.inr (Or.inr (Or.inr (Or.inr (Or.inr (Or.inr (Or.inr (Or.inr (Or.inr (Or.inr (Or.inr (Or.inr (Or.inr (Or.inl h))))))))))))))))))))))))))))))))))))))))))
  rcases (show u = 43 ∨ 44 ≤ u by omega) with h | a44
  · exact Or.inr (Or.inr (Or.inr (Or.inr (Or.inr (Or.inr (Or.inr (Or.inr (Or.inr (Or.inr (Or.inr (Or.inr (Or.inr (Or.inr (Or.inr (Or.inr (Or.inr (Or.inr (Or.inr (Or.inr (Or.inr (Or.inr (Or.inr (Or.inr (Or.inr (Or.inr (Or.inr (Or.inr (Or.inr (Or.inr (Or.inr (Or.inr (Or.inr (Or.inr (Or.inr (Or.inr (Or.inr (Or.inr (Or.inr (Or.inr (Or.inr (Or.inr (Or.inr (Or.inl h)))))))))))))))))))))))))))))))))))))))))))
  exact Or.inr (Or.inr (Or.inr (Or.inr (Or.inr (Or.inr (Or.inr (Or.inr (Or.inr (Or.inr (Or.inr (Or.inr (Or.inr (Or.inr (Or.inr (Or.inr (Or.inr (Or.inr (Or.inr (Or.inr (Or.inr (Or.inr (Or.inr (Or.inr (Or.inr (Or.inr (Or.inr (Or.inr (Or.inr (Or.inr (Or.inr (Or.inr (Or.inr (Or.inr (Or.inr (Or.inr (Or.inr (Or.inr (Or.inr (Or.inr (Or.inr (Or.inr (Or.inr (Or.inr ((show u = 44 by omega)))))))))))))))))))))))))))))))))))))))))))))
end
section
theorem kA_u {x u : Int} (h0 : 0 ≤ x) (h1 : x < 8380417) (hu : ((x + 127) / 128 * 1025 + 2097152) / 4194304 = u) : 0 ≤ u ∧ u ≤ 16 := by omega
theorem kB_u {x u : Int} (h0 : 0 ≤ x) (h1 : x < 8380417) (hu : ((x + 127) / 128 * 11275 + 8388608) / 16777216 = u) : 0 ≤ u ∧ u ≤ 44 := by omega
theorem kA {x : Int} (h0 : 0 ≤ x) (h1 : x < 8380417) : ∃ u : Int, u = ((x + 127) / 128 * 1025 + 2097152) / 4194304 ∧ 0 ≤ u ∧ u ≤ 16 ∧ 523776 * u - 261888 < x ∧ x ≤ 523776 * u + 261888 := by
  refine ⟨_, rfl, ?_⟩
  generalize hu : ((x + 127) / 128 * 1025 + 2097152) / 4194304 = u
  obtain ⟨b1, b2⟩ := kA_u h0 h1 hu
  refine ⟨b1, b2, ?_⟩
  rcases iv17 b1 b2 with h | h | h | h | h | h | h | h | h | h | h | h | h | h | h | h | h <;> subst h <;> constructor <;> omega
theorem kB {x : Int} (h0 : 0 ≤ x) (h1 : x < 8380417) : ∃ u : Int, u = ((x + 127) / 128 * 11275 + 8388608) / 16777216 ∧ 0 ≤ u ∧ u ≤ 44 ∧ 190464 * u - 95232 < x ∧ x ≤ 190464 * u + 95232 := by
  refine ⟨_, rfl, ?_⟩
  generalize hu : ((x + 127) / 128 * 11275 + 8388608) / 16777216 = u
  obtain ⟨b1, b2⟩ := kB_u h0 h1 hu
  refine ⟨b1, b2, ?_⟩
  rcases iv45 b1 b2 with h | h | h | h | h | h | h | h | h | h | h | h | h | h | h | h | h | h | h | h | h | h | h | h | h | h | h | h | h | h | h | h | h | h | h | h | h | h | h | h | h | h | h | h | h <;> subst h <;> constructor <;> omega
end
section
def d1A (a : Int32) : Int32 := ((a + 127) >>> ((7 : Int32) &&& 31) * 1025 + 2097152) >>> ((22 : Int32) &&& 31) &&& 15
def d1u (a : Int32) : Int32 := ((a + 127) >>> ((7 : Int32) &&& 31) * 11275 + 8388608) >>> ((24 : Int32) &&& 31)
def d1B (a : Int32) : Int32 := d1u a ^^^ ((43 - d1u a) >>> ((31 : Int32) &&& 31) &&& d1u a)
def d0t (a a1 g : Int32) : Int32 := a - a1 * 2 * g
def d0J (a a1 g : Int32) : Int32 := d0t a a1 g - ((4190208 - d0t a a1 g) >>> ((31 : Int32) &&& 31) &&& 8380417)
theorem ar_c (n : Nat) (h : n < 2 ^ 31) : (OfNat.ofNat n : Int32).toInt = (n : Int) := nI_toInt h
/-- the sign of a number, spread over all bits, as a mask -/
theorem ar_sgn (y z : Int32) : y >>> ((31 : Int32) &&& 31) &&& z = if y.toInt < 0 then z else 0 := by
  have e2 : (y >>> ((31 : Int32) &&& 31)).toInt = y.toInt / 2147483648 := by
    rw [ar_shr 31 31 (by decide)]
    rfl
  have b1 := ar_lo y
  have b2 := ar_hi y
  split
  · have e3 : y >>> ((31 : Int32) &&& 31) = -1 := by
      apply Int32.toInt_inj.mp
      rw [e2]
      have : (-1 : Int32).toInt = -1 := by decide
      omega
    rw [e3]
    exact Int32.neg_one_and
  · have e3 : y >>> ((31 : Int32) &&& 31) = 0 := by
      apply Int32.toInt_inj.mp
      rw [e2]
      have : (0 : Int32).toInt = 0 := by decide
      omega
    rw [e3]
    exact Int32.zero_and
theorem d1_7 {a : Int32} (h0 : 0 ≤ a.toInt) (h1 : a.toInt < 8380417) : ((a + 127) >>> ((7 : Int32) &&& 31)).toInt = (a.toInt + 127) / 128 := by
  have e1 : (a + 127).toInt = a.toInt + 127 := by
    have z : (127 : Int32).toInt = 127 := by decide
    rw [ar_add (by rw [z]; omega) (by rw [z]; omega), z]
  rw [ar_shr 7 7 (by decide), e1]
  rfl
theorem d1A_sp {a : Int32} (h0 : 0 ≤ a.toInt) (h1 : a.toInt < 8380417) : (d1A a).toInt = ((a.toInt + 127) / 128 * 1025 + 2097152) / 4194304 % 16 := by
  have e2 := d1_7 h0 h1
  unfold d1A
  generalize (a + 127) >>> ((7 : Int32) &&& 31) = t at e2
  have z1 : (1025 : Int32).toInt = 1025 := by decide
  have z2 : (2097152 : Int32).toInt = 2097152 := by decide
  have e3 : (t * 1025).toInt = (a.toInt + 127) / 128 * 1025 := by rw [ar_mul (by rw [e2, z1]; omega) (by rw [e2, z1]; omega), e2, z1]
  have e4 : (t * 1025 + 2097152).toInt = (a.toInt + 127) / 128 * 1025 + 2097152 := by rw [ar_add (by rw [e3, z2]; omega) (by rw [e3, z2]; omega), e3, z2]
  rw [ar_msk _ 4 (by decide) (by decide), ar_shr 22 22 (by decide), e4]
  rfl
theorem d1u_sp {a : Int32} (h0 : 0 ≤ a.toInt) (h1 : a.toInt < 8380417) : (d1u a).toInt = ((a.toInt + 127) / 128 * 11275 + 8388608) / 16777216 := by
  have e2 := d1_7 h0 h1
  unfold d1u
  generalize (a + 127) >>> ((7 : Int32) &&& 31) = t at e2
  have z1 : (11275 : Int32).toInt = 11275 := by decide
  have z2 : (8388608 : Int32).toInt = 8388608 := by decide
  have e3 : (t * 11275).toInt = (a.toInt + 127) / 128 * 11275 := by rw [ar_mul (by rw [e2, z1]; omega) (by rw [e2, z1]; omega), e2, z1]
  have e4 : (t * 11275 + 8388608).toInt = (a.toInt + 127) / 128 * 11275 + 8388608 := by rw [ar_add (by rw [e3, z2]; omega) (by rw [e3, z2]; omega), e3, z2]
  rw [ar_shr 24 24 (by decide), e4]
  rfl
theorem d1B_sp {a : Int32} {u : Int} (e : (d1u a).toInt = u) (h0 : 0 ≤ u) (h1 : u ≤ 44) : (d1B a).toInt = if u = 44 then 0 else u := by
  unfold d1B
  have z : (43 : Int32).toInt = 43 := by decide
  have e1 : (43 - d1u a).toInt = 43 - u := by rw [ar_sub (by rw [e, z]; omega) (by rw [e, z]; omega), e, z]
  rw [ar_sgn, e1]
  by_cases h : u = 44
  · rw [if_pos (by omega), if_pos h, Int32.xor_self]
    decide
  · rw [if_neg (by omega), if_neg h, Int32.xor_zero, e]
theorem d0_sp {a a1 g : Int32} {t : Int} (et : (d0t a a1 g).toInt = t) (h0 : -4190208 ≤ t) (h1 : t ≤ 8380416) : (d0J a a1 g).toInt = if 4190208 < t then t - 8380417 else t := by
  unfold d0J
  have z : (4190208 : Int32).toInt = 4190208 := by decide
  have e1 : (4190208 - d0t a a1 g).toInt = 4190208 - t := by rw [ar_sub (by rw [et, z]; omega) (by rw [et, z]; omega), et, z]
  rw [ar_sgn, e1]
  by_cases h : 4190208 < t
  · rw [if_pos (by omega), if_pos h, ar_sub (by rw [et, ar_litq]; omega) (by rw [et, ar_litq]; omega), et, ar_litq]
  · have z0 : (0 : Int32).toInt = 0 := by decide
    rw [if_neg (by omega), if_neg h, ar_sub (by rw [et, z0]; omega) (by rw [et, z0]; omega), et, z0]
    omega
theorem d0t_sp {a a1 g : Int32} {G u : Int} (hg : g.toInt = G) (e1 : a1.toInt = u) (hu : 0 ≤ u) (hu2 : u ≤ 43) (hG : 0 < G) (hG2 : G ≤ 261888) (h0 : 0 ≤ a.toInt) (h1 : a.toInt < 8380417) : (d0t a a1 g).toInt = a.toInt - 2 * G * u := by
  unfold d0t
  have z : (2 : Int32).toInt = 2 := by decide
  have e2 : (a1 * 2).toInt = u * 2 := by rw [ar_mul (by rw [e1, z]; omega) (by rw [e1, z]; omega), e1, z]
  have hp : 0 ≤ u * G := Int.mul_nonneg hu (by omega)
  have hq : u * G ≤ 43 * 261888 := Int.mul_le_mul hu2 hG2 (by omega) (by omega)
  have e3 : u * 2 * G = 2 * (u * G) := by grind
  have e4 : (a1 * 2 * g).toInt = 2 * (u * G) := by rw [ar_mul (by rw [e2, hg, e3]; omega) (by rw [e2, hg, e3]; omega), e2, hg, e3]
  have e5 : 2 * G * u = 2 * (u * G) := by grind
  rw [ar_sub (by rw [e4]; omega) (by rw [e4]; omega), e4, e5]
theorem dA_sp {a : Int32} (h0 : 0 ≤ a.toInt) (h1 : a.toInt < 8380417) : (d1A a).toInt = hiS 261888 a.toInt ∧ (d0J a (d1A a) 261888).toInt = loS 261888 a.toInt := by
  obtain ⟨u, eu, u0, u1, k1, k2⟩ := kA h0 h1
  have ed : (d1A a).toInt = u % 16 := by rw [d1A_sp h0 h1, ← eu]
  clear eu
  obtain ⟨s1, s2⟩ := hs_at (g := 261888) (x := a.toInt) (u := u) (M := 16) (by decide) (by decide) (by omega) (by omega)
  have e1 : (d1A a).toInt = if u = 16 then 0 else u := by
    rw [ed]
    split <;> omega
  refine ⟨e1.trans s1.symm, ?_⟩
  rw [s2]
  have zg : (261888 : Int32).toInt = 261888 := by decide
  by_cases h : u = 16
  · rw [if_pos h] at e1 ⊢
    have et := d0t_sp (a := a) zg e1 (by decide) (by decide) (by decide) (by decide) h0 h1
    rw [d0_sp et (by omega) (by omega), if_pos (by omega)]
    omega
  · rw [if_neg h] at e1 ⊢
    have et := d0t_sp (a := a) zg e1 u0 (by omega) (by decide) (by decide) h0 h1
    rw [d0_sp et (by omega) (by omega), if_neg (by omega)]
theorem dB_sp {a : Int32} (h0 : 0 ≤ a.toInt) (h1 : a.toInt < 8380417) : (d1B a).toInt = hiS 95232 a.toInt ∧ (d0J a (d1B a) 95232).toInt = loS 95232 a.toInt := by
  obtain ⟨u, eu, u0, u1, k1, k2⟩ := kB h0 h1
  have ed : (d1u a).toInt = u := by rw [d1u_sp h0 h1, eu]
  clear eu
  obtain ⟨s1, s2⟩ := hs_at (g := 95232) (x := a.toInt) (u := u) (M := 44) (by decide) (by decide) (by omega) (by omega)
  have e1 : (d1B a).toInt = if u = 44 then 0 else u := d1B_sp ed u0 u1
  refine ⟨e1.trans s1.symm, ?_⟩
  rw [s2]
  have zg : (95232 : Int32).toInt = 95232 := by decide
  by_cases h : u = 44
  · rw [if_pos h] at e1 ⊢
    have et := d0t_sp (a := a) zg e1 (by decide) (by decide) (by decide) (by decide) h0 h1
    rw [d0_sp et (by omega) (by omega), if_pos (by omega)]
    omega
  · rw [if_neg h] at e1 ⊢
    have et := d0t_sp (a := a) zg e1 u0 (by omega) (by decide) (by decide) h0 h1
    rw [d0_sp et (by omega) (by omega), if_neg (by omega)]
end
section
/-- two ints in a long, and out of it -/
def packJ (a0 a1 : Int32) : Int64 := a0.toInt64 <<< ((32 : Int32).toInt64 &&& 63) ||| (a1.toInt64 &&& 4294967295)
theorem pack_bv (a0 a1 : Int32) : (packJ a0 a1).toBitVec = a0.toBitVec.signExtend 64 <<< 32 ||| (a1.toBitVec.signExtend 64 &&& 4294967295#64) := by
  have h : (((32 : Int32).toInt64 &&& 63).toBitVec.smod 64).toNat = 32 := by decide
  show a0.toBitVec.signExtend 64 <<< (((32 : Int32).toInt64 &&& 63).toBitVec.smod 64).toNat ||| _ = _
  rw [h]
  rfl
theorem msk_lo : ∀ i, i < 32 → (4294967295#64).getLsbD i = true := by decide
theorem msk_hi : ∀ i, i < 32 → (4294967295#64).getLsbD (32 + i) = false := by decide
theorem unpack0 (a0 a1 : Int32) : (packJ a0 a1 >>> ((32 : Int32).toInt64 &&& 63)).toInt32 = a0 := by
  have h : (((32 : Int32).toInt64 &&& 63).toBitVec.smod 64).toNat = 32 := by decide
  apply Int32.toBitVec_inj.1
  show ((packJ a0 a1).toBitVec.sshiftRight (((32 : Int32).toInt64 &&& 63).toBitVec.smod 64).toNat).signExtend 32 = _
  rw [h, pack_bv]
  apply BitVec.eq_of_getLsbD_eq
  intro i hi
  have h1 : i < 64 := by omega
  have h2 : 32 + i < 64 := by omega
  have h3 : ¬ 64 ≤ i := by omega
  have h4 : ¬ 32 + i < 32 := by omega
  have h5 : 32 + i - 32 = i := by omega
  simp only [BitVec.getLsbD_signExtend, BitVec.getLsbD_sshiftRight, BitVec.getLsbD_or, BitVec.getLsbD_and, BitVec.getLsbD_shiftLeft, hi, h1, h2, h3, h4, h5, msk_hi i hi, if_true, decide_true, decide_false, Bool.not_false, Bool.true_and, Bool.and_true, Bool.and_false, Bool.or_false]
theorem unpack1 (a0 a1 : Int32) : (packJ a0 a1).toInt32 = a1 := by
  apply Int32.toBitVec_inj.1
  show ((packJ a0 a1).toBitVec).signExtend 32 = _
  rw [pack_bv]
  apply BitVec.eq_of_getLsbD_eq
  intro i hi
  have h1 : i < 64 := by omega
  simp only [BitVec.getLsbD_signExtend, BitVec.getLsbD_or, BitVec.getLsbD_and, BitVec.getLsbD_shiftLeft, hi, h1, msk_lo i hi, if_true, decide_true, Bool.not_true, Bool.true_and, Bool.and_true, Bool.and_false, Bool.false_and, Bool.false_or]
end
section
/-! contracts of Rounding and of hinted, both classes (printed by gen/g12.py) -/
def hintS (g h x : Int) : Int := if h = 0 then hiS g x else if 0 < loS g x then (hiS g x + 1) % (8380416 / (2 * g)) else (hiS g x + 8380416 / (2 * g) - 1) % (8380416 / (2 * g))
theorem ar_i1 : (1 : Int32).toInt = 1 := by decide
theorem ar_i0 : (0 : Int32).toInt = 0 := by decide
theorem ar_eq0 (x : Int32) : x = 0 ↔ x.toInt = 0 := ⟨fun h => by rw [h]; rfl, fun h => Int32.toInt_inj.mp (by rw [h]; rfl)⟩
theorem ar_le0 (x : Int32) : x ≤ 0 ↔ x.toInt ≤ 0 := by rw [Int32.le_iff_toInt_le]; rfl
theorem hiA_b {x : Int} (h0 : 0 ≤ x) (h1 : x < 8380417) : 0 ≤ hiS 261888 x ∧ hiS 261888 x ≤ 15 := by
  obtain ⟨u, eu, u0, u1, k1, k2⟩ := kA h0 h1
  clear eu
  rw [(hs_at (g := 261888) (x := x) (u := u) (M := 16) (by decide) (by decide) (by omega) (by omega)).1]
  split <;> omega
theorem hiB_b {x : Int} (h0 : 0 ≤ x) (h1 : x < 8380417) : 0 ≤ hiS 95232 x ∧ hiS 95232 x ≤ 43 := by
  obtain ⟨u, eu, u0, u1, k1, k2⟩ := kB h0 h1
  clear eu
  rw [(hs_at (g := 95232) (x := x) (u := u) (M := 44) (by decide) (by decide) (by omega) (by omega)).1]
  split <;> omega
set_option maxHeartbeats 4000000 in
set_option maxRecDepth 100000 in
theorem metX4_decomposeA (l : Launch) (a : Int32) : Met l yX4_decompose (ws_ yX4_decompose cX4_decompose 4 (some .long)) ({ frames := 0, cells := 0, slots := 0, locals := 0 }) (va_Pc [.int a, .int 261888] (fun _ => True)) (vp_Sl (fun r => r = packJ (d0J a (d1A a) 261888) (d1A a))) 0 0 (fun _ => False) := by
  refine Met.ofW (cc := cX4_decompose) (maxL := 4) (ret := some .long) (by decide) rfl ?_
  intro p e s m args below meth c s₁ B hml hv
  obtain ⟨rfl, -⟩ := hv
  have hx := B.exec
  have hb := B.bytes
  have hr := B.returns
  have hts := atoms_spec (ws := ws_ yX4_decompose cX4_decompose 4 (some .long)) B.pre
  have hts : ∀ w ∈ lw_all, w.before _ s = true := fun w h => hts w (List.mem_cons_of_mem _ h)
  have hown : s.vm.findClass RX4 = some m.cls := findClass_of_methodNamed B.named
  have hlocks := B.notSynchronized
  have hl := lv_entry ([.int a, .int 261888]) (n := 4) (Nat.le_of_ble_eq_true rfl)
  rw [lg_entry_eq]
  generalize (lg_sl ([.int a, .int 261888]) ++ List.replicate (4 - (lg_sl ([.int a, .int 261888])).length) Slot.unset).toArray = ls at hl ⊢
  have hl : lv_has ls 4 [(0, .int a), (1, .int 261888)] := hl

  refine lv_iload_n hx hb dX4_decompose_0 rfl (lv_at hl 0 rfl) ?_
  refine lv_bipush (v := 127) hx hb dX4_decompose_1 (by decide) ?_
  refine lv_iadd hx hb dX4_decompose_3 ?_
  refine lv_bipush (v := 7) hx hb dX4_decompose_4 (by decide) ?_
  refine lv_ishr hx hb dX4_decompose_6 ?_
  refine lv_topi (fun v_7 ev_7 => ?_)
  refine lv_istore_n (lv' := [(2, .int v_7), (0, .int a), (1, .int 261888)]) hx hb dX4_decompose_7 rfl hl (by decide) rfl (fun ls hl => ?_)
  refine lv_iload_n hx hb dX4_decompose_8 rfl (lv_at hl 2 rfl) ?_
  refine lv_ldc hx hb hown (hts _ q88) dX4_decompose_9 ?_
  refine lv_icmp_ne (tgt := 34) hx hb dX4_decompose_11 (by decide) (fun c_11 => absurd rfl c_11) (fun c_11 => ?_)
  refine lv_iload_n hx hb dX4_decompose_14 rfl (lv_at hl 0 rfl) ?_
  refine lv_sipush (v := 1025) hx hb dX4_decompose_15 (by decide) ?_
  refine lv_imul hx hb dX4_decompose_18 ?_
  refine lv_ldc hx hb hown (hts _ q89) dX4_decompose_19 ?_
  refine lv_iadd hx hb dX4_decompose_21 ?_
  refine lv_bipush (v := 22) hx hb dX4_decompose_22 (by decide) ?_
  refine lv_ishr hx hb dX4_decompose_24 ?_
  refine lv_topi (fun v_25 ev_25 => ?_)
  refine lv_istore_n (lv' := [(2, .int v_25), (0, .int a), (1, .int 261888)]) hx hb dX4_decompose_25 rfl hl (by decide) rfl (fun ls hl => ?_)
  refine lv_iload_n hx hb dX4_decompose_26 rfl (lv_at hl 0 rfl) ?_
  refine lv_bipush (v := 15) hx hb dX4_decompose_27 (by decide) ?_
  refine lv_iand hx hb dX4_decompose_29 ?_
  refine lv_topi (fun v_30 ev_30 => ?_)
  refine lv_istore_n (lv' := [(2, .int v_30), (0, .int a), (1, .int 261888)]) hx hb dX4_decompose_30 rfl hl (by decide) rfl (fun ls hl => ?_)
  refine lv_goto (tgt := 77) hx hb dX4_decompose_31 (by decide) ?_
  refine lv_iload_n hx hb dX4_decompose_77 rfl (lv_at hl 1 rfl) ?_
  refine lv_iload_n hx hb dX4_decompose_78 rfl (lv_at hl 0 rfl) ?_
  refine lv_iconst (v := 2) hx hb dX4_decompose_79 (by decide) ?_
  refine lv_imul hx hb dX4_decompose_80 ?_
  refine lv_iload_n hx hb dX4_decompose_81 rfl (lv_at hl 2 rfl) ?_
  refine lv_imul hx hb dX4_decompose_82 ?_
  refine lv_isub hx hb dX4_decompose_83 ?_
  refine lv_topi (fun v_84 ev_84 => ?_)
  refine lv_istore_n (lv' := [(3, .int v_84), (2, .int v_30), (0, .int a), (1, .int 261888)]) hx hb dX4_decompose_84 rfl hl (by decide) rfl (fun ls hl => ?_)
  refine lv_iload_n hx hb dX4_decompose_85 rfl (lv_at hl 0 rfl) ?_
  refine lv_ldc hx hb hown (hts _ q153) dX4_decompose_86 ?_
  refine lv_iload_n hx hb dX4_decompose_88 rfl (lv_at hl 0 rfl) ?_
  refine lv_isub hx hb dX4_decompose_89 ?_
  refine lv_bipush (v := 31) hx hb dX4_decompose_90 (by decide) ?_
  refine lv_ishr hx hb dX4_decompose_92 ?_
  refine lv_ldc hx hb hown (hts _ q154) dX4_decompose_93 ?_
  refine lv_iand hx hb dX4_decompose_95 ?_
  refine lv_isub hx hb dX4_decompose_96 ?_
  refine lv_topi (fun v_97 ev_97 => ?_)
  refine lv_istore_n (lv' := [(3, .int v_97), (2, .int v_30), (0, .int a), (1, .int 261888)]) hx hb dX4_decompose_97 rfl hl (by decide) rfl (fun ls hl => ?_)
  refine lv_iload_n hx hb dX4_decompose_98 rfl (lv_at hl 0 rfl) ?_
  refine lv_i2l hx hb dX4_decompose_99 rfl ?_
  refine lv_bipush (v := 32) hx hb dX4_decompose_100 (by decide) ?_
  refine lv_lshl hx hb dX4_decompose_102 rfl ?_
  refine lv_iload_n hx hb dX4_decompose_103 rfl (lv_at hl 1 rfl) ?_
  refine lv_i2l hx hb dX4_decompose_104 rfl ?_
  refine lv_ldc2 hx hb hown (hts _ q155) dX4_decompose_105 ?_
  refine lv_land hx hb dX4_decompose_108 ?_
  refine lv_lor hx hb dX4_decompose_109 ?_
  have e1 : v_30 = d1A a := by rw [ev_30, ev_25, ev_7]; rfl
  exact W.lret hx hb hr (fun t ht hW => ⟨_, rfl, by rw [ev_97, ev_84, e1]; rfl, ht⟩) (fun q h => by cases h) dX4_decompose_110
set_option maxHeartbeats 4000000 in
set_option maxRecDepth 100000 in
theorem metX4_decomposeB (l : Launch) (a : Int32) : Met l yX4_decompose (ws_ yX4_decompose cX4_decompose 4 (some .long)) ({ frames := 0, cells := 0, slots := 0, locals := 0 }) (va_Pc [.int a, .int 95232] (fun _ => True)) (vp_Sl (fun r => r = packJ (d0J a (d1B a) 95232) (d1B a))) 0 0 (fun _ => False) := by
  refine Met.ofW (cc := cX4_decompose) (maxL := 4) (ret := some .long) (by decide) rfl ?_
  intro p e s m args below meth c s₁ B hml hv
  obtain ⟨rfl, -⟩ := hv
  have hx := B.exec
  have hb := B.bytes
  have hr := B.returns
  have hts := atoms_spec (ws := ws_ yX4_decompose cX4_decompose 4 (some .long)) B.pre
  have hts : ∀ w ∈ lw_all, w.before _ s = true := fun w h => hts w (List.mem_cons_of_mem _ h)
  have hown : s.vm.findClass RX4 = some m.cls := findClass_of_methodNamed B.named
  have hlocks := B.notSynchronized
  have hl := lv_entry ([.int a, .int 95232]) (n := 4) (Nat.le_of_ble_eq_true rfl)
  rw [lg_entry_eq]
  generalize (lg_sl ([.int a, .int 95232]) ++ List.replicate (4 - (lg_sl ([.int a, .int 95232])).length) Slot.unset).toArray = ls at hl ⊢
  have hl : lv_has ls 4 [(0, .int a), (1, .int 95232)] := hl

  refine lv_iload_n hx hb dX4_decompose_0 rfl (lv_at hl 0 rfl) ?_
  refine lv_bipush (v := 127) hx hb dX4_decompose_1 (by decide) ?_
  refine lv_iadd hx hb dX4_decompose_3 ?_
  refine lv_bipush (v := 7) hx hb dX4_decompose_4 (by decide) ?_
  refine lv_ishr hx hb dX4_decompose_6 ?_
  refine lv_topi (fun v_7 ev_7 => ?_)
  refine lv_istore_n (lv' := [(2, .int v_7), (0, .int a), (1, .int 95232)]) hx hb dX4_decompose_7 rfl hl (by decide) rfl (fun ls hl => ?_)
  refine lv_iload_n hx hb dX4_decompose_8 rfl (lv_at hl 2 rfl) ?_
  refine lv_ldc hx hb hown (hts _ q88) dX4_decompose_9 ?_
  refine lv_icmp_ne (tgt := 34) hx hb dX4_decompose_11 (by decide) (fun c_11 => ?_) (fun c_11 => absurd c_11 (by decide))
  refine lv_iload_n hx hb dX4_decompose_34 rfl (lv_at hl 2 rfl) ?_
  refine lv_ldc hx hb hown (hts _ q90) dX4_decompose_35 ?_
  refine lv_icmp_ne (tgt := 67) hx hb dX4_decompose_37 (by decide) (fun c_37 => absurd rfl c_37) (fun c_37 => ?_)
  refine lv_iload_n hx hb dX4_decompose_40 rfl (lv_at hl 0 rfl) ?_
  refine lv_sipush (v := 11275) hx hb dX4_decompose_41 (by decide) ?_
  refine lv_imul hx hb dX4_decompose_44 ?_
  refine lv_ldc hx hb hown (hts _ q91) dX4_decompose_45 ?_
  refine lv_iadd hx hb dX4_decompose_47 ?_
  refine lv_bipush (v := 24) hx hb dX4_decompose_48 (by decide) ?_
  refine lv_ishr hx hb dX4_decompose_50 ?_
  refine lv_topi (fun v_51 ev_51 => ?_)
  refine lv_istore_n (lv' := [(2, .int v_51), (0, .int a), (1, .int 95232)]) hx hb dX4_decompose_51 rfl hl (by decide) rfl (fun ls hl => ?_)
  refine lv_iload_n hx hb dX4_decompose_52 rfl (lv_at hl 0 rfl) ?_
  refine lv_bipush (v := 43) hx hb dX4_decompose_53 (by decide) ?_
  refine lv_iload_n hx hb dX4_decompose_55 rfl (lv_at hl 0 rfl) ?_
  refine lv_isub hx hb dX4_decompose_56 ?_
  refine lv_bipush (v := 31) hx hb dX4_decompose_57 (by decide) ?_
  refine lv_ishr hx hb dX4_decompose_59 ?_
  refine lv_iload_n hx hb dX4_decompose_60 rfl (lv_at hl 0 rfl) ?_
  refine lv_iand hx hb dX4_decompose_61 ?_
  refine lv_ixor hx hb dX4_decompose_62 ?_
  refine lv_topi (fun v_63 ev_63 => ?_)
  refine lv_istore_n (lv' := [(2, .int v_63), (0, .int a), (1, .int 95232)]) hx hb dX4_decompose_63 rfl hl (by decide) rfl (fun ls hl => ?_)
  refine lv_goto (tgt := 77) hx hb dX4_decompose_64 (by decide) ?_
  refine lv_iload_n hx hb dX4_decompose_77 rfl (lv_at hl 1 rfl) ?_
  refine lv_iload_n hx hb dX4_decompose_78 rfl (lv_at hl 0 rfl) ?_
  refine lv_iconst (v := 2) hx hb dX4_decompose_79 (by decide) ?_
  refine lv_imul hx hb dX4_decompose_80 ?_
  refine lv_iload_n hx hb dX4_decompose_81 rfl (lv_at hl 2 rfl) ?_
  refine lv_imul hx hb dX4_decompose_82 ?_
  refine lv_isub hx hb dX4_decompose_83 ?_
  refine lv_topi (fun v_84 ev_84 => ?_)
  refine lv_istore_n (lv' := [(3, .int v_84), (2, .int v_63), (0, .int a), (1, .int 95232)]) hx hb dX4_decompose_84 rfl hl (by decide) rfl (fun ls hl => ?_)
  refine lv_iload_n hx hb dX4_decompose_85 rfl (lv_at hl 0 rfl) ?_
  refine lv_ldc hx hb hown (hts _ q153) dX4_decompose_86 ?_
  refine lv_iload_n hx hb dX4_decompose_88 rfl (lv_at hl 0 rfl) ?_
  refine lv_isub hx hb dX4_decompose_89 ?_
  refine lv_bipush (v := 31) hx hb dX4_decompose_90 (by decide) ?_
  refine lv_ishr hx hb dX4_decompose_92 ?_
  refine lv_ldc hx hb hown (hts _ q154) dX4_decompose_93 ?_
  refine lv_iand hx hb dX4_decompose_95 ?_
  refine lv_isub hx hb dX4_decompose_96 ?_
  refine lv_topi (fun v_97 ev_97 => ?_)
  refine lv_istore_n (lv' := [(3, .int v_97), (2, .int v_63), (0, .int a), (1, .int 95232)]) hx hb dX4_decompose_97 rfl hl (by decide) rfl (fun ls hl => ?_)
  refine lv_iload_n hx hb dX4_decompose_98 rfl (lv_at hl 0 rfl) ?_
  refine lv_i2l hx hb dX4_decompose_99 rfl ?_
  refine lv_bipush (v := 32) hx hb dX4_decompose_100 (by decide) ?_
  refine lv_lshl hx hb dX4_decompose_102 rfl ?_
  refine lv_iload_n hx hb dX4_decompose_103 rfl (lv_at hl 1 rfl) ?_
  refine lv_i2l hx hb dX4_decompose_104 rfl ?_
  refine lv_ldc2 hx hb hown (hts _ q155) dX4_decompose_105 ?_
  refine lv_land hx hb dX4_decompose_108 ?_
  refine lv_lor hx hb dX4_decompose_109 ?_
  have e1 : v_63 = d1B a := by rw [ev_63, ev_51, ev_7]; rfl
  exact W.lret hx hb hr (fun t ht hW => ⟨_, rfl, by rw [ev_97, ev_84, e1]; rfl, ht⟩) (fun q h => by cases h) dX4_decompose_110
set_option maxHeartbeats 4000000 in
set_option maxRecDepth 100000 in
theorem metX4_useHintA (l : Launch) (a h : Int32) (h0 : 0 ≤ a.toInt) (h1 : a.toInt < 8380417) : Met l yX4_useHint (ws_ yX4_useHint cX4_useHint 7 (some .int)) ({ frames := 1, cells := 0, slots := 0, locals := 23 }) (va_Pc [.int a, .int h, .int 261888] (fun _ => True)) (vp_Si (fun r => r.toInt = hintS 261888 h.toInt a.toInt)) 0 0 (fun _ => False) := by
  refine Met.ofW (cc := cX4_useHint) (maxL := 7) (ret := some .int) (by decide) rfl ?_
  intro p e s m args below meth c s₁ B hml hv
  obtain ⟨rfl, -⟩ := hv
  have hx := B.exec
  have hb := B.bytes
  have hr := B.returns
  have hts := atoms_spec (ws := ws_ yX4_useHint cX4_useHint 7 (some .int)) B.pre
  have hts : ∀ w ∈ lw_all, w.before _ s = true := fun w h => hts w (List.mem_cons_of_mem _ h)
  have hown : s.vm.findClass RX4 = some m.cls := findClass_of_methodNamed B.named
  have hlocks := B.notSynchronized
  have hl := lv_entry ([.int a, .int h, .int 261888]) (n := 7) (Nat.le_of_ble_eq_true rfl)
  rw [lg_entry_eq]
  generalize (lg_sl ([.int a, .int h, .int 261888]) ++ List.replicate (7 - (lg_sl ([.int a, .int h, .int 261888])).length) Slot.unset).toArray = ls at hl ⊢
  have hl : lv_has ls 7 [(0, .int a), (1, .int h), (2, .int 261888)] := hl

  refine lv_iload_n hx hb dX4_useHint_0 rfl (lv_at hl 0 rfl) ?_
  refine lv_iload_n hx hb dX4_useHint_1 rfl (lv_at hl 2 rfl) ?_
  refine vp_callSl (va_Run.run (va_runS (As := [.int a, .int 261888]) (rest := []) ⟨hx, hb, hml, hown, hts⟩ (metX4_decomposeA l a) (va_cwS 2 hts (lw_S q85 q86 q6 q87) rfl rfl rfl (by decide +kernel) ⟨Nat.le_of_ble_eq_true rfl, Nat.le_of_ble_eq_true rfl⟩) ⟨fun _ _ _ _ q => q, fun U hU hW => ⟨rfl, trivial⟩⟩ rfl rfl hl.1 rfl (lv_room (Nat.le_of_ble_eq_true rfl)) dX4_useHint_2 ⟨Nat.le_of_ble_eq_true rfl, Nat.le_of_ble_eq_true rfl⟩)) (fun r_2 hr_2 => ?_)
  refine lv_lstore_n (lv' := [(3, .long r_2), (0, .int a), (1, .int h), (2, .int 261888)]) hx hb dX4_useHint_5 rfl hl (by decide) rfl (fun ls hl => ?_)
  refine lv_lload_n hx hb dX4_useHint_6 rfl (lv_at hl 0 rfl) ?_
  refine lv_bipush (v := 32) hx hb dX4_useHint_7 (by decide) ?_
  refine lv_lshr hx hb dX4_useHint_9 rfl ?_
  refine lv_l2i hx hb dX4_useHint_10 rfl ?_
  refine lv_topi (fun v_11 ev_11 => ?_)
  refine lv_istore (lv' := [(5, .int v_11), (3, .long r_2), (0, .int a), (1, .int h), (2, .int 261888)]) hx hb dX4_useHint_11 hl (by decide) rfl (fun ls hl => ?_)
  refine lv_lload_n hx hb dX4_useHint_13 rfl (lv_at hl 1 rfl) ?_
  refine lv_l2i hx hb dX4_useHint_14 rfl ?_
  refine lv_topi (fun v_15 ev_15 => ?_)
  refine lv_istore (lv' := [(6, .int v_15), (5, .int v_11), (3, .long r_2), (0, .int a), (1, .int h), (2, .int 261888)]) hx hb dX4_useHint_15 hl (by decide) rfl (fun ls hl => ?_)
  refine lv_iload_n hx hb dX4_useHint_17 rfl (lv_at hl 4 rfl) ?_
  obtain ⟨s1, s2⟩ := dA_sp h0 h1
  obtain ⟨b1, b2⟩ := hiA_b h0 h1
  have x0 : v_11.toInt = loS 261888 a.toInt := by rw [ev_11, hr_2, unpack0]; exact s2
  have x1 : v_15.toInt = hiS 261888 a.toInt := by rw [ev_15, hr_2, unpack1]; exact s1
  clear ev_11 ev_15 s1 s2
  refine lv_if_ne (tgt := 24) hx hb dX4_useHint_18 (by decide) (fun c_18 => ?_) (fun c_18 => ?_)
  · rw [ar_eq0] at c_18
    refine lv_iload_n hx hb dX4_useHint_24 rfl (lv_at hl 5 rfl) ?_
    refine lv_ldc hx hb hown (hts _ q88) dX4_useHint_25 ?_
    refine lv_icmp_ne (tgt := 51) hx hb dX4_useHint_27 (by decide) (fun c_27 => absurd rfl c_27) (fun c_27 => ?_)
    refine lv_iload hx hb dX4_useHint_30 (lv_at hl 1 rfl) ?_
    refine lv_if_le (tgt := 43) hx hb dX4_useHint_32 (by decide) (fun c_32 => ?_) (fun c_32 => ?_)
    · rw [ar_le0, x0] at c_32
      refine lv_iload hx hb dX4_useHint_43 (lv_at hl 0 rfl) ?_
      refine lv_iconst (v := 1) hx hb dX4_useHint_45 (by decide) ?_
      refine lv_isub hx hb dX4_useHint_46 ?_
      refine lv_bipush (v := 15) hx hb dX4_useHint_47 (by decide) ?_
      refine lv_iand hx hb dX4_useHint_49 ?_
      refine lv_topi (fun z ez => ?_)
      have ez2 : z.toInt = hintS 261888 h.toInt a.toInt := by
        rw [ez, ar_msk _ 4 (by decide) (by decide), ar_sub (by rw [x1, ar_i1]; omega) (by rw [x1, ar_i1]; omega), x1, ar_i1]
        unfold hintS
        rw [if_neg c_18, if_neg (by omega)]
        generalize hiS 261888 a.toInt = y at b1 b2 ⊢
        show _ = (y + 8380416 / (2 * 261888) - 1) % (8380416 / (2 * 261888))
        have e16 : (8380416 : Int) / (2 * 261888) = 16 := by decide
        rw [e16]
        have p4 : (2 : Int) ^ 4 = 16 := by decide
        rw [p4]
        all_goals omega
      exact W.iret (v := z) hx hb hr (fun t ht hW => ⟨_, rfl, ez2, ht⟩) (fun q h => by cases h) dX4_useHint_50
    · rw [ar_le0, x0] at c_32
      refine lv_iload hx hb dX4_useHint_35 (lv_at hl 0 rfl) ?_
      refine lv_iconst (v := 1) hx hb dX4_useHint_37 (by decide) ?_
      refine lv_iadd hx hb dX4_useHint_38 ?_
      refine lv_bipush (v := 15) hx hb dX4_useHint_39 (by decide) ?_
      refine lv_iand hx hb dX4_useHint_41 ?_
      refine lv_topi (fun z ez => ?_)
      have ez2 : z.toInt = hintS 261888 h.toInt a.toInt := by
        rw [ez, ar_msk _ 4 (by decide) (by decide), ar_add (by rw [x1, ar_i1]; omega) (by rw [x1, ar_i1]; omega), x1, ar_i1]
        unfold hintS
        rw [if_neg c_18, if_pos (by omega)]
        generalize hiS 261888 a.toInt = y at b1 b2 ⊢
        show _ = (y + 1) % (8380416 / (2 * 261888))
        have e16 : (8380416 : Int) / (2 * 261888) = 16 := by decide
        rw [e16]
        have p4 : (2 : Int) ^ 4 = 16 := by decide
        rw [p4]
        all_goals omega
      exact W.iret (v := z) hx hb hr (fun t ht hW => ⟨_, rfl, ez2, ht⟩) (fun q h => by cases h) dX4_useHint_42
  · have c_18 : h.toInt = 0 := (ar_eq0 _).mp c_18
    refine lv_iload hx hb dX4_useHint_21 (lv_at hl 0 rfl) ?_
    exact W.iret (v := v_15) hx hb hr (fun t ht hW => ⟨_, rfl, by unfold hintS; rw [if_pos c_18]; exact x1, ht⟩) (fun q h => by cases h) dX4_useHint_23
set_option maxHeartbeats 4000000 in
set_option maxRecDepth 100000 in
theorem metX4_useHintB (l : Launch) (a h : Int32) (h0 : 0 ≤ a.toInt) (h1 : a.toInt < 8380417) : Met l yX4_useHint (ws_ yX4_useHint cX4_useHint 7 (some .int)) ({ frames := 1, cells := 0, slots := 0, locals := 23 }) (va_Pc [.int a, .int h, .int 95232] (fun _ => True)) (vp_Si (fun r => r.toInt = hintS 95232 h.toInt a.toInt)) 0 0 (fun _ => False) := by
  refine Met.ofW (cc := cX4_useHint) (maxL := 7) (ret := some .int) (by decide) rfl ?_
  intro p e s m args below meth c s₁ B hml hv
  obtain ⟨rfl, -⟩ := hv
  have hx := B.exec
  have hb := B.bytes
  have hr := B.returns
  have hts := atoms_spec (ws := ws_ yX4_useHint cX4_useHint 7 (some .int)) B.pre
  have hts : ∀ w ∈ lw_all, w.before _ s = true := fun w h => hts w (List.mem_cons_of_mem _ h)
  have hown : s.vm.findClass RX4 = some m.cls := findClass_of_methodNamed B.named
  have hlocks := B.notSynchronized
  have hl := lv_entry ([.int a, .int h, .int 95232]) (n := 7) (Nat.le_of_ble_eq_true rfl)
  rw [lg_entry_eq]
  generalize (lg_sl ([.int a, .int h, .int 95232]) ++ List.replicate (7 - (lg_sl ([.int a, .int h, .int 95232])).length) Slot.unset).toArray = ls at hl ⊢
  have hl : lv_has ls 7 [(0, .int a), (1, .int h), (2, .int 95232)] := hl

  refine lv_iload_n hx hb dX4_useHint_0 rfl (lv_at hl 0 rfl) ?_
  refine lv_iload_n hx hb dX4_useHint_1 rfl (lv_at hl 2 rfl) ?_
  refine vp_callSl (va_Run.run (va_runS (As := [.int a, .int 95232]) (rest := []) ⟨hx, hb, hml, hown, hts⟩ (metX4_decomposeB l a) (va_cwS 2 hts (lw_S q85 q86 q6 q87) rfl rfl rfl (by decide +kernel) ⟨Nat.le_of_ble_eq_true rfl, Nat.le_of_ble_eq_true rfl⟩) ⟨fun _ _ _ _ q => q, fun U hU hW => ⟨rfl, trivial⟩⟩ rfl rfl hl.1 rfl (lv_room (Nat.le_of_ble_eq_true rfl)) dX4_useHint_2 ⟨Nat.le_of_ble_eq_true rfl, Nat.le_of_ble_eq_true rfl⟩)) (fun r_2 hr_2 => ?_)
  refine lv_lstore_n (lv' := [(3, .long r_2), (0, .int a), (1, .int h), (2, .int 95232)]) hx hb dX4_useHint_5 rfl hl (by decide) rfl (fun ls hl => ?_)
  refine lv_lload_n hx hb dX4_useHint_6 rfl (lv_at hl 0 rfl) ?_
  refine lv_bipush (v := 32) hx hb dX4_useHint_7 (by decide) ?_
  refine lv_lshr hx hb dX4_useHint_9 rfl ?_
  refine lv_l2i hx hb dX4_useHint_10 rfl ?_
  refine lv_topi (fun v_11 ev_11 => ?_)
  refine lv_istore (lv' := [(5, .int v_11), (3, .long r_2), (0, .int a), (1, .int h), (2, .int 95232)]) hx hb dX4_useHint_11 hl (by decide) rfl (fun ls hl => ?_)
  refine lv_lload_n hx hb dX4_useHint_13 rfl (lv_at hl 1 rfl) ?_
  refine lv_l2i hx hb dX4_useHint_14 rfl ?_
  refine lv_topi (fun v_15 ev_15 => ?_)
  refine lv_istore (lv' := [(6, .int v_15), (5, .int v_11), (3, .long r_2), (0, .int a), (1, .int h), (2, .int 95232)]) hx hb dX4_useHint_15 hl (by decide) rfl (fun ls hl => ?_)
  refine lv_iload_n hx hb dX4_useHint_17 rfl (lv_at hl 4 rfl) ?_
  obtain ⟨s1, s2⟩ := dB_sp h0 h1
  obtain ⟨b1, b2⟩ := hiB_b h0 h1
  have x0 : v_11.toInt = loS 95232 a.toInt := by rw [ev_11, hr_2, unpack0]; exact s2
  have x1 : v_15.toInt = hiS 95232 a.toInt := by rw [ev_15, hr_2, unpack1]; exact s1
  clear ev_11 ev_15 s1 s2
  refine lv_if_ne (tgt := 24) hx hb dX4_useHint_18 (by decide) (fun c_18 => ?_) (fun c_18 => ?_)
  · rw [ar_eq0] at c_18
    refine lv_iload_n hx hb dX4_useHint_24 rfl (lv_at hl 5 rfl) ?_
    refine lv_ldc hx hb hown (hts _ q88) dX4_useHint_25 ?_
    refine lv_icmp_ne (tgt := 51) hx hb dX4_useHint_27 (by decide) (fun c_27 => ?_) (fun c_27 => absurd c_27 (by decide))
    refine lv_iload_n hx hb dX4_useHint_51 rfl (lv_at hl 5 rfl) ?_
    refine lv_ldc hx hb hown (hts _ q90) dX4_useHint_52 ?_
    refine lv_icmp_ne (tgt := 93) hx hb dX4_useHint_54 (by decide) (fun c_54 => absurd rfl c_54) (fun c_54 => ?_)
    refine lv_iload hx hb dX4_useHint_57 (lv_at hl 1 rfl) ?_
    refine lv_if_le (tgt := 78) hx hb dX4_useHint_59 (by decide) (fun c_59 => ?_) (fun c_59 => ?_)
    · rw [ar_le0, x0] at c_59
      refine lv_iload hx hb dX4_useHint_78 (lv_at hl 0 rfl) ?_
      refine lv_if_ne (tgt := 88) hx hb dX4_useHint_80 (by decide) (fun c_80 => ?_) (fun c_80 => ?_)
      · rw [ar_eq0, x1] at c_80
        refine lv_iload hx hb dX4_useHint_88 (lv_at hl 0 rfl) ?_
        refine lv_iconst (v := 1) hx hb dX4_useHint_90 (by decide) ?_
        refine lv_isub hx hb dX4_useHint_91 ?_
        refine lv_topi (fun z ez => ?_)
        have ez2 : z.toInt = hintS 95232 h.toInt a.toInt := by
          rw [ez, ar_sub (by rw [x1, ar_i1]; omega) (by rw [x1, ar_i1]; omega), x1, ar_i1]
          unfold hintS
          rw [if_neg c_18, if_neg (by omega)]
          have e44 : (8380416 : Int) / (2 * 95232) = 44 := by decide
          rw [e44]
          omega
        exact W.iret (v := z) hx hb hr (fun t ht hW => ⟨_, rfl, ez2, ht⟩) (fun q h => by cases h) dX4_useHint_92
      · have c_80 : v_15.toInt = 0 := (ar_eq0 _).mp c_80
        rw [x1] at c_80
        refine lv_bipush (v := 43) hx hb dX4_useHint_83 (by decide) ?_
        refine lv_goto (tgt := 92) hx hb dX4_useHint_85 (by decide) ?_
        refine lv_topi (fun z ez => ?_)
        have ez2 : z.toInt = hintS 95232 h.toInt a.toInt := by
          rw [ez]
          unfold hintS
          rw [if_neg c_18, if_neg (by omega)]
          have e44 : (8380416 : Int) / (2 * 95232) = 44 := by decide
          rw [e44]
          rw [c_80]
          decide
        exact W.iret (v := z) hx hb hr (fun t ht hW => ⟨_, rfl, ez2, ht⟩) (fun q h => by cases h) dX4_useHint_92
    · rw [ar_le0, x0] at c_59
      refine lv_iload hx hb dX4_useHint_62 (lv_at hl 0 rfl) ?_
      refine lv_bipush (v := 43) hx hb dX4_useHint_64 (by decide) ?_
      have z43 : (43 : Int32).toInt = 43 := by decide
      refine lv_icmp_ne (tgt := 73) hx hb dX4_useHint_66 (by decide) (fun c_66 => ?_) (fun c_66 => ?_)
      · have c_66 : ¬ v_15.toInt = 43 := fun q => c_66 (Int32.toInt_inj.mp (q.trans z43.symm))
        rw [x1] at c_66
        refine lv_iload hx hb dX4_useHint_73 (lv_at hl 0 rfl) ?_
        refine lv_iconst (v := 1) hx hb dX4_useHint_75 (by decide) ?_
        refine lv_iadd hx hb dX4_useHint_76 ?_
        refine lv_topi (fun z ez => ?_)
        have ez2 : z.toInt = hintS 95232 h.toInt a.toInt := by
          rw [ez, ar_add (by rw [x1, ar_i1]; omega) (by rw [x1, ar_i1]; omega), x1, ar_i1]
          unfold hintS
          rw [if_neg c_18, if_pos (by omega)]
          have e44 : (8380416 : Int) / (2 * 95232) = 44 := by decide
          rw [e44]
          omega
        exact W.iret (v := z) hx hb hr (fun t ht hW => ⟨_, rfl, ez2, ht⟩) (fun q h => by cases h) dX4_useHint_77
      · have c_66 : v_15.toInt = 43 := by rw [c_66]; exact z43
        rw [x1] at c_66
        refine lv_iconst (v := 0) hx hb dX4_useHint_69 (by decide) ?_
        refine lv_goto (tgt := 77) hx hb dX4_useHint_70 (by decide) ?_
        refine lv_topi (fun z ez => ?_)
        have ez2 : z.toInt = hintS 95232 h.toInt a.toInt := by
          rw [ez]
          unfold hintS
          rw [if_neg c_18, if_pos (by omega)]
          have e44 : (8380416 : Int) / (2 * 95232) = 44 := by decide
          rw [e44]
          rw [c_66]
          decide
        exact W.iret (v := z) hx hb hr (fun t ht hW => ⟨_, rfl, ez2, ht⟩) (fun q h => by cases h) dX4_useHint_77
  · have c_18 : h.toInt = 0 := (ar_eq0 _).mp c_18
    refine lv_iload hx hb dX4_useHint_21 (lv_at hl 0 rfl) ?_
    exact W.iret (v := v_15) hx hb hr (fun t ht hW => ⟨_, rfl, by unfold hintS; rw [if_pos c_18]; exact x1, ht⟩) (fun q h => by cases h) dX4_useHint_23
def gamJ (k : Int32) : Int := if k &&& 1 = 0 then 95232 else 261888
set_option maxHeartbeats 4000000 in
set_option maxRecDepth 100000 in
theorem metX0_hinted (l : Launch) (h0 : Nat) (v h k : Int32) : Met l yX0_hinted (ws_ yX0_hinted cX0_hinted 4 (some .int)) ({ frames := 2, cells := 0, slots := 0, locals := 49 }) (va_Pc [.ref h0, .int v, .int h, .int k] (fun _ => True)) (vp_Si (fun r => r.toInt = hintS (gamJ k) (h &&& 1).toInt (fairJ v).toInt)) 0 0 (fun _ => False) := by
  refine Met.ofW (cc := cX0_hinted) (maxL := 4) (ret := some .int) (by decide) rfl ?_
  intro p e s m args below meth c s₁ B hml hv
  obtain ⟨rfl, -⟩ := hv
  have hx := B.exec
  have hb := B.bytes
  have hr := B.returns
  have hts := atoms_spec (ws := ws_ yX0_hinted cX0_hinted 4 (some .int)) B.pre
  have hts : ∀ w ∈ lw_all, w.before _ s = true := fun w h => hts w (List.mem_cons_of_mem _ h)
  have hown : s.vm.findClass RX0 = some m.cls := findClass_of_methodNamed B.named
  have hlocks := B.notSynchronized
  have hl := lv_entry ([.ref h0, .int v, .int h, .int k]) (n := 4) (Nat.le_of_ble_eq_true rfl)
  rw [lg_entry_eq]
  generalize (lg_sl ([.ref h0, .int v, .int h, .int k]) ++ List.replicate (4 - (lg_sl ([.ref h0, .int v, .int h, .int k])).length) Slot.unset).toArray = ls at hl ⊢
  have hl : lv_has ls 4 [(0, .ref h0), (1, .int v), (2, .int h), (3, .int k)] := hl

  refine lv_iload_n hx hb dX0_hinted_0 rfl (lv_at hl 1 rfl) ?_
  refine vp_callSi (va_Run.run (va_runS (As := [.int v]) (rest := []) ⟨hx, hb, hml, hown, hts⟩ (metX0_fair l v) (va_cwS 1 hts (lw_S q29 q30 q2 q31) rfl rfl rfl (by decide +kernel) ⟨Nat.le_of_ble_eq_true rfl, Nat.le_of_ble_eq_true rfl⟩) ⟨fun _ _ _ _ q => q, fun U hU hW => ⟨rfl, trivial⟩⟩ rfl rfl hl.1 rfl (lv_room (Nat.le_of_ble_eq_true rfl)) dX0_hinted_1 ⟨Nat.le_of_ble_eq_true rfl, Nat.le_of_ble_eq_true rfl⟩)) (fun r_1 hr_1 => ?_)
  obtain ⟨f0, f1⟩ := fair_spec v
  rw [← hr_1] at f0 f1
  refine lv_iload_n hx hb dX0_hinted_4 rfl (lv_at hl 2 rfl) ?_
  refine lv_iconst (v := 1) hx hb dX0_hinted_5 (by decide) ?_
  refine lv_iand hx hb dX0_hinted_6 ?_
  refine lv_topi (fun h2 eh2 => ?_)
  refine lv_iload_n hx hb dX0_hinted_7 rfl (lv_at hl 3 rfl) ?_
  refine lv_iconst (v := 1) hx hb dX0_hinted_8 (by decide) ?_
  refine lv_iand hx hb dX0_hinted_9 ?_
  refine lv_if_ne (tgt := 18) hx hb dX0_hinted_10 (by decide) (fun c_10 => ?_) (fun c_10 => ?_)
  · skip
    refine lv_ldc hx hb hown (hts _ q81) dX0_hinted_18 ?_
    refine vp_callSi (va_Run.run (va_runS (As := [.int r_1, .int h2, .int 261888]) (rest := []) ⟨hx, hb, hml, hown, hts⟩ (metX4_useHintA l r_1 h2 f0 f1) (va_cwS 3 hts (lw_S q82 q83 q6 q84) rfl rfl rfl (by decide +kernel) ⟨Nat.le_of_ble_eq_true rfl, Nat.le_of_ble_eq_true rfl⟩) ⟨fun _ _ _ _ q => q, fun U hU hW => ⟨rfl, trivial⟩⟩ rfl rfl hl.1 rfl (lv_room (Nat.le_of_ble_eq_true rfl)) dX0_hinted_20 ⟨Nat.le_of_ble_eq_true rfl, Nat.le_of_ble_eq_true rfl⟩)) (fun r_20 hr_20 => ?_)
    exact W.iret (v := r_20) hx hb hr (fun t ht hW => ⟨_, rfl, by show Int32.toInt _ = _; rw [hr_20, hr_1, eh2, show gamJ k = 261888 from if_neg c_10], ht⟩) (fun q h => by cases h) dX0_hinted_23
  · skip
    refine lv_ldc hx hb hown (hts _ q80) dX0_hinted_13 ?_
    refine lv_goto (tgt := 20) hx hb dX0_hinted_15 (by decide) ?_
    refine vp_callSi (va_Run.run (va_runS (As := [.int r_1, .int h2, .int 95232]) (rest := []) ⟨hx, hb, hml, hown, hts⟩ (metX4_useHintB l r_1 h2 f0 f1) (va_cwS 3 hts (lw_S q82 q83 q6 q84) rfl rfl rfl (by decide +kernel) ⟨Nat.le_of_ble_eq_true rfl, Nat.le_of_ble_eq_true rfl⟩) ⟨fun _ _ _ _ q => q, fun U hU hW => ⟨rfl, trivial⟩⟩ rfl rfl hl.1 rfl (lv_room (Nat.le_of_ble_eq_true rfl)) dX0_hinted_20 ⟨Nat.le_of_ble_eq_true rfl, Nat.le_of_ble_eq_true rfl⟩)) (fun r_20 hr_20 => ?_)
    exact W.iret (v := r_20) hx hb hr (fun t ht hW => ⟨_, rfl, by show Int32.toInt _ = _; rw [hr_20, hr_1, eh2, show gamJ k = 95232 from if_pos c_10], ht⟩) (fun q h => by cases h) dX0_hinted_23
theorem mh_lowA {x : Int32} (h0 : 0 ≤ x.toInt) : (x - x / (2 * 261888) * (2 * 261888)).toInt = x.toInt % (2 * 261888) := by
  have h := (rem_pos (x := x) (d := 2 * 261888) (by decide) h0).1
  have z : (2 * 261888 : Int32).toInt = 2 * 261888 := by decide
  rw [z] at h
  exact h
theorem mh_leA {x y : Int32} (h : y.toInt = x.toInt % (2 * 261888)) (c : y ≤ 261888) : y.toInt = lo0 261888 x.toInt := by
  rw [Int32.le_iff_toInt_le, show (261888 : Int32).toInt = 261888 by decide] at c
  unfold lo0
  rw [if_neg (by omega), h]
theorem mh_gtA {x y : Int32} (h : y.toInt = x.toInt % (2 * 261888)) (c : ¬ y ≤ 261888) : (y - 2 * 261888).toInt = lo0 261888 x.toInt := by
  rw [Int32.le_iff_toInt_le, show (261888 : Int32).toInt = 261888 by decide] at c
  have z : (2 * 261888 : Int32).toInt = 2 * 261888 := by decide
  unfold lo0
  rw [if_pos (by omega), ar_sub (by rw [h, z]; omega) (by rw [h, z]; omega), h, z]
theorem lo0_bA (x : Int) : -261888 < lo0 261888 x ∧ lo0 261888 x ≤ 261888 := by
  unfold lo0
  split <;> omega
theorem mh_dA {x y : Int32} (h0 : 0 ≤ x.toInt) (h1 : x.toInt < 8380417) (h : y.toInt = lo0 261888 x.toInt) : (x - y).toInt = x.toInt - lo0 261888 x.toInt := by
  have b := lo0_bA x.toInt
  rw [ar_sub (by rw [h]; omega) (by rw [h]; omega), h]
theorem mh_noA {x y : Int32} (h0 : 0 ≤ x.toInt) (h1 : x.toInt < 8380417) (h : y.toInt = lo0 261888 x.toInt) (c : ¬ x - y = 8380416) : y.toInt = loS 261888 x.toInt ∧ ((x - y) / (2 * 261888)).toInt = hiS 261888 x.toInt := by
  have e := mh_dA h0 h1 h
  have c2 : ¬ x.toInt - lo0 261888 x.toInt = 8380416 := fun q => c (Int32.toInt_inj.mp (e.trans (q.trans (by decide))))
  have b := lo0_bA x.toInt
  have z : (2 * 261888 : Int32).toInt = 2 * 261888 := by decide
  have hp : 0 ≤ (x - y).toInt := by
    rw [e]
    unfold lo0 at b ⊢
    split <;> omega
  have h3 := (rem_pos (x := x - y) (d := 2 * 261888) (by decide) hp).2
  rw [z, e] at h3
  unfold loS hiS
  rw [if_neg c2, if_neg c2]
  exact ⟨h, h3⟩
theorem mh_yeA {x y : Int32} (h0 : 0 ≤ x.toInt) (h1 : x.toInt < 8380417) (h : y.toInt = lo0 261888 x.toInt) (c : x - y = 8380416) : (y - 1).toInt = loS 261888 x.toInt ∧ (0 : Int32).toInt = hiS 261888 x.toInt := by
  have e := mh_dA h0 h1 h
  have c2 : x.toInt - lo0 261888 x.toInt = 8380416 := by rw [← e, c]; decide
  have b := lo0_bA x.toInt
  unfold loS hiS
  rw [if_pos c2, if_pos c2]
  exact ⟨by rw [ar_sub (by rw [h, ar_i1]; omega) (by rw [h, ar_i1]; omega), h, ar_i1], rfl⟩
theorem mh_uA {y m : Int32} {x : Int} (h0 : 0 ≤ x) (h1 : x < 8380417) (em : m = 16) (h : y.toInt = hiS 261888 x) : (y + 1 - (y + 1) / m * m).toInt = (hiS 261888 x + 1) % (8380416 / (2 * 261888)) ∧ (y + m - 1 - (y + m - 1) / m * m).toInt = (hiS 261888 x + 8380416 / (2 * 261888) - 1) % (8380416 / (2 * 261888)) := by
  subst em
  obtain ⟨b1, b2⟩ := hiA_b h0 h1
  have z : (16 : Int32).toInt = 16 := by decide
  have e1 : (y + 1).toInt = hiS 261888 x + 1 := by rw [ar_add (by rw [h, ar_i1]; omega) (by rw [h, ar_i1]; omega), h, ar_i1]
  have e2 : (y + 16).toInt = hiS 261888 x + 16 := by rw [ar_add (by rw [h, z]; omega) (by rw [h, z]; omega), h, z]
  have e3 : (y + 16 - 1).toInt = hiS 261888 x + 16 - 1 := by rw [ar_sub (by rw [e2, ar_i1]; omega) (by rw [e2, ar_i1]; omega), e2, ar_i1]
  have r1 := (rem_pos (x := y + 1) (d := 16) (by decide) (by rw [e1]; omega)).1
  have r2 := (rem_pos (x := y + 16 - 1) (d := 16) (by decide) (by rw [e3]; omega)).1
  rw [e1, z] at r1
  rw [e3, z] at r2
  exact ⟨r1, r2⟩
theorem mh_lowB {x : Int32} (h0 : 0 ≤ x.toInt) : (x - x / (2 * 95232) * (2 * 95232)).toInt = x.toInt % (2 * 95232) := by
  have h := (rem_pos (x := x) (d := 2 * 95232) (by decide) h0).1
  have z : (2 * 95232 : Int32).toInt = 2 * 95232 := by decide
  rw [z] at h
  exact h
theorem mh_leB {x y : Int32} (h : y.toInt = x.toInt % (2 * 95232)) (c : y ≤ 95232) : y.toInt = lo0 95232 x.toInt := by
  rw [Int32.le_iff_toInt_le, show (95232 : Int32).toInt = 95232 by decide] at c
  unfold lo0
  rw [if_neg (by omega), h]
theorem mh_gtB {x y : Int32} (h : y.toInt = x.toInt % (2 * 95232)) (c : ¬ y ≤ 95232) : (y - 2 * 95232).toInt = lo0 95232 x.toInt := by
  rw [Int32.le_iff_toInt_le, show (95232 : Int32).toInt = 95232 by decide] at c
  have z : (2 * 95232 : Int32).toInt = 2 * 95232 := by decide
  unfold lo0
  rw [if_pos (by omega), ar_sub (by rw [h, z]; omega) (by rw [h, z]; omega), h, z]
theorem lo0_bB (x : Int) : -95232 < lo0 95232 x ∧ lo0 95232 x ≤ 95232 := by
  unfold lo0
  split <;> omega
theorem mh_dB {x y : Int32} (h0 : 0 ≤ x.toInt) (h1 : x.toInt < 8380417) (h : y.toInt = lo0 95232 x.toInt) : (x - y).toInt = x.toInt - lo0 95232 x.toInt := by
  have b := lo0_bB x.toInt
  rw [ar_sub (by rw [h]; omega) (by rw [h]; omega), h]
theorem mh_noB {x y : Int32} (h0 : 0 ≤ x.toInt) (h1 : x.toInt < 8380417) (h : y.toInt = lo0 95232 x.toInt) (c : ¬ x - y = 8380416) : y.toInt = loS 95232 x.toInt ∧ ((x - y) / (2 * 95232)).toInt = hiS 95232 x.toInt := by
  have e := mh_dB h0 h1 h
  have c2 : ¬ x.toInt - lo0 95232 x.toInt = 8380416 := fun q => c (Int32.toInt_inj.mp (e.trans (q.trans (by decide))))
  have b := lo0_bB x.toInt
  have z : (2 * 95232 : Int32).toInt = 2 * 95232 := by decide
  have hp : 0 ≤ (x - y).toInt := by
    rw [e]
    unfold lo0 at b ⊢
    split <;> omega
  have h3 := (rem_pos (x := x - y) (d := 2 * 95232) (by decide) hp).2
  rw [z, e] at h3
  unfold loS hiS
  rw [if_neg c2, if_neg c2]
  exact ⟨h, h3⟩
theorem mh_yeB {x y : Int32} (h0 : 0 ≤ x.toInt) (h1 : x.toInt < 8380417) (h : y.toInt = lo0 95232 x.toInt) (c : x - y = 8380416) : (y - 1).toInt = loS 95232 x.toInt ∧ (0 : Int32).toInt = hiS 95232 x.toInt := by
  have e := mh_dB h0 h1 h
  have c2 : x.toInt - lo0 95232 x.toInt = 8380416 := by rw [← e, c]; decide
  have b := lo0_bB x.toInt
  unfold loS hiS
  rw [if_pos c2, if_pos c2]
  exact ⟨by rw [ar_sub (by rw [h, ar_i1]; omega) (by rw [h, ar_i1]; omega), h, ar_i1], rfl⟩
theorem mh_uB {y m : Int32} {x : Int} (h0 : 0 ≤ x) (h1 : x < 8380417) (em : m = 44) (h : y.toInt = hiS 95232 x) : (y + 1 - (y + 1) / m * m).toInt = (hiS 95232 x + 1) % (8380416 / (2 * 95232)) ∧ (y + m - 1 - (y + m - 1) / m * m).toInt = (hiS 95232 x + 8380416 / (2 * 95232) - 1) % (8380416 / (2 * 95232)) := by
  subst em
  obtain ⟨b1, b2⟩ := hiB_b h0 h1
  have z : (44 : Int32).toInt = 44 := by decide
  have e1 : (y + 1).toInt = hiS 95232 x + 1 := by rw [ar_add (by rw [h, ar_i1]; omega) (by rw [h, ar_i1]; omega), h, ar_i1]
  have e2 : (y + 44).toInt = hiS 95232 x + 44 := by rw [ar_add (by rw [h, z]; omega) (by rw [h, z]; omega), h, z]
  have e3 : (y + 44 - 1).toInt = hiS 95232 x + 44 - 1 := by rw [ar_sub (by rw [e2, ar_i1]; omega) (by rw [e2, ar_i1]; omega), e2, ar_i1]
  have r1 := (rem_pos (x := y + 1) (d := 44) (by decide) (by rw [e1]; omega)).1
  have r2 := (rem_pos (x := y + 44 - 1) (d := 44) (by decide) (by rw [e3]; omega)).1
  rw [e1, z] at r1
  rw [e3, z] at r2
  exact ⟨r1, r2⟩
set_option maxHeartbeats 4000000 in
set_option maxRecDepth 100000 in
theorem metX1_hinted (l : Launch) (h0 : Nat) (v h k : Int32) : Met l yX1_hinted (ws_ yX1_hinted cX1_hinted 9 (some .int)) ({ frames := 0, cells := 0, slots := 0, locals := 0 }) (va_Pc [.ref h0, .int v, .int h, .int k] (fun _ => True)) (vp_Si (fun r => r.toInt = hintS (gamJ k) (h &&& 1).toInt (fairJ v).toInt)) 0 0 (fun _ => False) := by
  refine Met.ofW (cc := cX1_hinted) (maxL := 9) (ret := some .int) (by decide) rfl ?_
  intro p e s m args below meth c s₁ B hml hv
  obtain ⟨rfl, -⟩ := hv
  have hx := B.exec
  have hb := B.bytes
  have hr := B.returns
  have hts := atoms_spec (ws := ws_ yX1_hinted cX1_hinted 9 (some .int)) B.pre
  have hts : ∀ w ∈ lw_all, w.before _ s = true := fun w h => hts w (List.mem_cons_of_mem _ h)
  have hown : s.vm.findClass RX1 = some m.cls := findClass_of_methodNamed B.named
  have hlocks := B.notSynchronized
  have hl := lv_entry ([.ref h0, .int v, .int h, .int k]) (n := 9) (Nat.le_of_ble_eq_true rfl)
  rw [lg_entry_eq]
  generalize (lg_sl ([.ref h0, .int v, .int h, .int k]) ++ List.replicate (9 - (lg_sl ([.ref h0, .int v, .int h, .int k])).length) Slot.unset).toArray = ls at hl ⊢
  have hl : lv_has ls 9 [(0, .ref h0), (1, .int v), (2, .int h), (3, .int k)] := hl

  obtain ⟨f0, f1⟩ := fair_spec v
  refine lv_iload_n hx hb dX1_hinted_0 rfl (lv_at hl 3 rfl) ?_
  refine lv_iconst (v := 1) hx hb dX1_hinted_1 (by decide) ?_
  refine lv_iand hx hb dX1_hinted_2 ?_
  refine lv_if_ne (tgt := 11) hx hb dX1_hinted_3 (by decide) (fun c_3 => ?_) (fun c_3 => ?_)
  · have hgam : gamJ k = 261888 := if_neg c_3
    refine lv_ldc hx hb hown (hts _ q204) dX1_hinted_11 ?_
    refine lv_istore (lv' := [(4, .int 261888), (0, .ref h0), (1, .int v), (2, .int h), (3, .int k)]) hx hb dX1_hinted_13 hl (by decide) rfl (fun ls hl => ?_)
    refine lv_iload_n hx hb dX1_hinted_15 rfl (lv_at hl 2 rfl) ?_
    refine lv_ldc hx hb hown (hts _ q180) dX1_hinted_16 ?_
    refine lv_iand hx hb dX1_hinted_18 ?_
    refine lv_ldc hx hb hown (hts _ q181) dX1_hinted_19 ?_
    refine lv_irem hx hb dX1_hinted_21 (by decide) ?_
    refine lv_topi (fun v_22 ev_22 => ?_)
    refine lv_istore (lv' := [(5, .int v_22), (4, .int 261888), (0, .ref h0), (1, .int v), (2, .int h), (3, .int k)]) hx hb dX1_hinted_22 hl (by decide) rfl (fun ls hl => ?_)
    refine lv_ldc hx hb hown (hts _ q205) dX1_hinted_24 ?_
    refine lv_iconst (v := 2) hx hb dX1_hinted_26 (by decide) ?_
    refine lv_iload hx hb dX1_hinted_27 (lv_at hl 1 rfl) ?_
    refine lv_imul hx hb dX1_hinted_29 ?_
    refine lv_idiv hx hb dX1_hinted_30 (by decide) ?_
    refine lv_topi (fun v_31 ev_31 => ?_)
    refine lv_istore (lv' := [(6, .int v_31), (5, .int v_22), (4, .int 261888), (0, .ref h0), (1, .int v), (2, .int h), (3, .int k)]) hx hb dX1_hinted_31 hl (by decide) rfl (fun ls hl => ?_)
    refine lv_iload hx hb dX1_hinted_33 (lv_at hl 1 rfl) ?_
    refine lv_iconst (v := 2) hx hb dX1_hinted_35 (by decide) ?_
    refine lv_iload hx hb dX1_hinted_36 (lv_at hl 2 rfl) ?_
    refine lv_imul hx hb dX1_hinted_38 ?_
    refine lv_irem hx hb dX1_hinted_39 (by decide) ?_
    refine lv_topi (fun v_40 ev_40 => ?_)
    refine lv_istore (lv' := [(7, .int v_40), (6, .int v_31), (5, .int v_22), (4, .int 261888), (0, .ref h0), (1, .int v), (2, .int h), (3, .int k)]) hx hb dX1_hinted_40 hl (by decide) rfl (fun ls hl => ?_)
    have ex : v_22 = fairJ v := ev_22
    rw [← ex] at f0 f1
    have em : v_31 = 16 := by rw [ev_31]; decide
    have elo : v_40.toInt = v_22.toInt % (2 * 261888) := by rw [ev_40]; exact mh_lowA f0
    refine lv_iload hx hb dX1_hinted_42 (lv_at hl 0 rfl) ?_
    refine lv_iload hx hb dX1_hinted_44 (lv_at hl 3 rfl) ?_
    refine lv_icmp_le (tgt := 58) hx hb dX1_hinted_46 (by decide) (fun c_46 => ?_) (fun c_46 => ?_)
    · have hlo := mh_leA elo c_46
      refine lv_iconst (v := 0) hx hb dX1_hinted_58 (by decide) ?_
      refine lv_istore (lv' := [(8, .int 0), (7, .int v_40), (6, .int v_31), (5, .int v_22), (4, .int 261888), (0, .ref h0), (1, .int v), (2, .int h), (3, .int k)]) hx hb dX1_hinted_59 hl (by decide) rfl (fun ls hl => ?_)
      refine lv_iload hx hb dX1_hinted_61 (lv_at hl 3 rfl) ?_
      refine lv_iload hx hb dX1_hinted_63 (lv_at hl 1 rfl) ?_
      refine lv_isub hx hb dX1_hinted_65 ?_
      refine lv_ldc hx hb hown (hts _ q205) dX1_hinted_66 ?_
      refine lv_icmp_ne (tgt := 80) hx hb dX1_hinted_68 (by decide) (fun c_68 => ?_) (fun c_68 => ?_)
      · obtain ⟨hl1, hh1⟩ := mh_noA f0 f1 hlo c_68
        refine lv_iload hx hb dX1_hinted_80 (lv_at hl 3 rfl) ?_
        refine lv_iload hx hb dX1_hinted_82 (lv_at hl 1 rfl) ?_
        refine lv_isub hx hb dX1_hinted_84 ?_
        refine lv_iconst (v := 2) hx hb dX1_hinted_85 (by decide) ?_
        refine lv_iload hx hb dX1_hinted_86 (lv_at hl 4 rfl) ?_
        refine lv_imul hx hb dX1_hinted_88 ?_
        refine lv_idiv hx hb dX1_hinted_89 (by decide) ?_
        refine lv_topi (fun v_90 ev_90 => ?_)
        refine lv_istore (lv' := [(8, .int v_90), (7, .int v_40), (6, .int v_31), (5, .int v_22), (4, .int 261888), (0, .ref h0), (1, .int v), (2, .int h), (3, .int k)]) hx hb dX1_hinted_90 hl (by decide) rfl (fun ls hl => ?_)
        rw [← ev_90] at hh1
        obtain ⟨u1, u2⟩ := mh_uA f0 f1 em hh1
        refine lv_iload_n hx hb dX1_hinted_92 rfl (lv_at hl 7 rfl) ?_
        refine lv_iconst (v := 1) hx hb dX1_hinted_93 (by decide) ?_
        refine lv_iand hx hb dX1_hinted_94 ?_
        refine lv_if_ne (tgt := 101) hx hb dX1_hinted_95 (by decide) (fun c_95 => ?_) (fun c_95 => ?_)
        · rw [ar_eq0] at c_95
          refine lv_iload hx hb dX1_hinted_101 (lv_at hl 1 rfl) ?_
          refine lv_if_le (tgt := 116) hx hb dX1_hinted_103 (by decide) (fun c_103 => ?_) (fun c_103 => ?_)
          · rw [ar_le0, hl1] at c_103
            refine lv_iload hx hb dX1_hinted_116 (lv_at hl 0 rfl) ?_
            refine lv_iload hx hb dX1_hinted_118 (lv_at hl 2 rfl) ?_
            refine lv_iadd hx hb dX1_hinted_120 ?_
            refine lv_iconst (v := 1) hx hb dX1_hinted_121 (by decide) ?_
            refine lv_isub hx hb dX1_hinted_122 ?_
            refine lv_iload hx hb dX1_hinted_123 (lv_at hl 2 rfl) ?_
            refine lv_irem hx hb dX1_hinted_125 (by rw [em]; decide) ?_
            exact W.iret hx hb hr (fun t ht hW => ⟨_, rfl, by show Int32.toInt _ = _; rw [hgam, ← ex]; unfold hintS; rw [if_neg c_95, if_neg (by omega)]; exact u2, ht⟩) (fun q h => by cases h) dX1_hinted_126
          · rw [ar_le0, hl1] at c_103
            refine lv_iload hx hb dX1_hinted_106 (lv_at hl 0 rfl) ?_
            refine lv_iconst (v := 1) hx hb dX1_hinted_108 (by decide) ?_
            refine lv_iadd hx hb dX1_hinted_109 ?_
            refine lv_iload hx hb dX1_hinted_110 (lv_at hl 2 rfl) ?_
            refine lv_irem hx hb dX1_hinted_112 (by rw [em]; decide) ?_
            refine lv_goto (tgt := 126) hx hb dX1_hinted_113 (by decide) ?_
            exact W.iret hx hb hr (fun t ht hW => ⟨_, rfl, by show Int32.toInt _ = _; rw [hgam, ← ex]; unfold hintS; rw [if_neg c_95, if_pos (by omega)]; exact u1, ht⟩) (fun q h => by cases h) dX1_hinted_126
        · have c_95 := (ar_eq0 _).mp c_95
          refine lv_iload hx hb dX1_hinted_98 (lv_at hl 0 rfl) ?_
          exact W.iret (v := v_90) hx hb hr (fun t ht hW => ⟨_, rfl, by show Int32.toInt _ = _; rw [hgam, ← ex]; unfold hintS; rw [if_pos c_95]; exact hh1, ht⟩) (fun q h => by cases h) dX1_hinted_100
      · obtain ⟨hl1, hh1⟩ := mh_yeA f0 f1 hlo c_68
        refine lv_iload hx hb dX1_hinted_71 (lv_at hl 1 rfl) ?_
        refine lv_iconst (v := 1) hx hb dX1_hinted_73 (by decide) ?_
        refine lv_isub hx hb dX1_hinted_74 ?_
        refine lv_topi (fun v_75 ev_75 => ?_)
        refine lv_istore (lv' := [(7, .int v_75), (8, .int 0), (6, .int v_31), (5, .int v_22), (4, .int 261888), (0, .ref h0), (1, .int v), (2, .int h), (3, .int k)]) hx hb dX1_hinted_75 hl (by decide) rfl (fun ls hl => ?_)
        refine lv_goto (tgt := 92) hx hb dX1_hinted_77 (by decide) ?_
        rw [← ev_75] at hl1
        obtain ⟨u1, u2⟩ := mh_uA f0 f1 em hh1
        refine lv_iload_n hx hb dX1_hinted_92 rfl (lv_at hl 7 rfl) ?_
        refine lv_iconst (v := 1) hx hb dX1_hinted_93 (by decide) ?_
        refine lv_iand hx hb dX1_hinted_94 ?_
        refine lv_if_ne (tgt := 101) hx hb dX1_hinted_95 (by decide) (fun c_95 => ?_) (fun c_95 => ?_)
        · rw [ar_eq0] at c_95
          refine lv_iload hx hb dX1_hinted_101 (lv_at hl 0 rfl) ?_
          refine lv_if_le (tgt := 116) hx hb dX1_hinted_103 (by decide) (fun c_103 => ?_) (fun c_103 => ?_)
          · rw [ar_le0, hl1] at c_103
            refine lv_iload hx hb dX1_hinted_116 (lv_at hl 1 rfl) ?_
            refine lv_iload hx hb dX1_hinted_118 (lv_at hl 2 rfl) ?_
            refine lv_iadd hx hb dX1_hinted_120 ?_
            refine lv_iconst (v := 1) hx hb dX1_hinted_121 (by decide) ?_
            refine lv_isub hx hb dX1_hinted_122 ?_
            refine lv_iload hx hb dX1_hinted_123 (lv_at hl 2 rfl) ?_
            refine lv_irem hx hb dX1_hinted_125 (by rw [em]; decide) ?_
            exact W.iret hx hb hr (fun t ht hW => ⟨_, rfl, by show Int32.toInt _ = _; rw [hgam, ← ex]; unfold hintS; rw [if_neg c_95, if_neg (by omega)]; exact u2, ht⟩) (fun q h => by cases h) dX1_hinted_126
          · rw [ar_le0, hl1] at c_103
            refine lv_iload hx hb dX1_hinted_106 (lv_at hl 1 rfl) ?_
            refine lv_iconst (v := 1) hx hb dX1_hinted_108 (by decide) ?_
            refine lv_iadd hx hb dX1_hinted_109 ?_
            refine lv_iload hx hb dX1_hinted_110 (lv_at hl 2 rfl) ?_
            refine lv_irem hx hb dX1_hinted_112 (by rw [em]; decide) ?_
            refine lv_goto (tgt := 126) hx hb dX1_hinted_113 (by decide) ?_
            exact W.iret hx hb hr (fun t ht hW => ⟨_, rfl, by show Int32.toInt _ = _; rw [hgam, ← ex]; unfold hintS; rw [if_neg c_95, if_pos (by omega)]; exact u1, ht⟩) (fun q h => by cases h) dX1_hinted_126
        · have c_95 := (ar_eq0 _).mp c_95
          refine lv_iload hx hb dX1_hinted_98 (lv_at hl 1 rfl) ?_
          exact W.iret (v := 0) hx hb hr (fun t ht hW => ⟨_, rfl, by show Int32.toInt _ = _; rw [hgam, ← ex]; unfold hintS; rw [if_pos c_95]; exact hh1, ht⟩) (fun q h => by cases h) dX1_hinted_100
    · have hlo := mh_gtA elo c_46
      refine lv_iload hx hb dX1_hinted_49 (lv_at hl 0 rfl) ?_
      refine lv_iconst (v := 2) hx hb dX1_hinted_51 (by decide) ?_
      refine lv_iload hx hb dX1_hinted_52 (lv_at hl 3 rfl) ?_
      refine lv_imul hx hb dX1_hinted_54 ?_
      refine lv_isub hx hb dX1_hinted_55 ?_
      refine lv_topi (fun v_56 ev_56 => ?_)
      refine lv_istore (lv' := [(7, .int v_56), (6, .int v_31), (5, .int v_22), (4, .int 261888), (0, .ref h0), (1, .int v), (2, .int h), (3, .int k)]) hx hb dX1_hinted_56 hl (by decide) rfl (fun ls hl => ?_)
      rw [← ev_56] at hlo
      refine lv_iconst (v := 0) hx hb dX1_hinted_58 (by decide) ?_
      refine lv_istore (lv' := [(8, .int 0), (7, .int v_56), (6, .int v_31), (5, .int v_22), (4, .int 261888), (0, .ref h0), (1, .int v), (2, .int h), (3, .int k)]) hx hb dX1_hinted_59 hl (by decide) rfl (fun ls hl => ?_)
      refine lv_iload hx hb dX1_hinted_61 (lv_at hl 3 rfl) ?_
      refine lv_iload hx hb dX1_hinted_63 (lv_at hl 1 rfl) ?_
      refine lv_isub hx hb dX1_hinted_65 ?_
      refine lv_ldc hx hb hown (hts _ q205) dX1_hinted_66 ?_
      refine lv_icmp_ne (tgt := 80) hx hb dX1_hinted_68 (by decide) (fun c_68 => ?_) (fun c_68 => ?_)
      · obtain ⟨hl1, hh1⟩ := mh_noA f0 f1 hlo c_68
        refine lv_iload hx hb dX1_hinted_80 (lv_at hl 3 rfl) ?_
        refine lv_iload hx hb dX1_hinted_82 (lv_at hl 1 rfl) ?_
        refine lv_isub hx hb dX1_hinted_84 ?_
        refine lv_iconst (v := 2) hx hb dX1_hinted_85 (by decide) ?_
        refine lv_iload hx hb dX1_hinted_86 (lv_at hl 4 rfl) ?_
        refine lv_imul hx hb dX1_hinted_88 ?_
        refine lv_idiv hx hb dX1_hinted_89 (by decide) ?_
        refine lv_topi (fun v_90 ev_90 => ?_)
        refine lv_istore (lv' := [(8, .int v_90), (7, .int v_56), (6, .int v_31), (5, .int v_22), (4, .int 261888), (0, .ref h0), (1, .int v), (2, .int h), (3, .int k)]) hx hb dX1_hinted_90 hl (by decide) rfl (fun ls hl => ?_)
        rw [← ev_90] at hh1
        obtain ⟨u1, u2⟩ := mh_uA f0 f1 em hh1
        refine lv_iload_n hx hb dX1_hinted_92 rfl (lv_at hl 7 rfl) ?_
        refine lv_iconst (v := 1) hx hb dX1_hinted_93 (by decide) ?_
        refine lv_iand hx hb dX1_hinted_94 ?_
        refine lv_if_ne (tgt := 101) hx hb dX1_hinted_95 (by decide) (fun c_95 => ?_) (fun c_95 => ?_)
        · rw [ar_eq0] at c_95
          refine lv_iload hx hb dX1_hinted_101 (lv_at hl 1 rfl) ?_
          refine lv_if_le (tgt := 116) hx hb dX1_hinted_103 (by decide) (fun c_103 => ?_) (fun c_103 => ?_)
          · rw [ar_le0, hl1] at c_103
            refine lv_iload hx hb dX1_hinted_116 (lv_at hl 0 rfl) ?_
            refine lv_iload hx hb dX1_hinted_118 (lv_at hl 2 rfl) ?_
            refine lv_iadd hx hb dX1_hinted_120 ?_
            refine lv_iconst (v := 1) hx hb dX1_hinted_121 (by decide) ?_
            refine lv_isub hx hb dX1_hinted_122 ?_
            refine lv_iload hx hb dX1_hinted_123 (lv_at hl 2 rfl) ?_
            refine lv_irem hx hb dX1_hinted_125 (by rw [em]; decide) ?_
            exact W.iret hx hb hr (fun t ht hW => ⟨_, rfl, by show Int32.toInt _ = _; rw [hgam, ← ex]; unfold hintS; rw [if_neg c_95, if_neg (by omega)]; exact u2, ht⟩) (fun q h => by cases h) dX1_hinted_126
          · rw [ar_le0, hl1] at c_103
            refine lv_iload hx hb dX1_hinted_106 (lv_at hl 0 rfl) ?_
            refine lv_iconst (v := 1) hx hb dX1_hinted_108 (by decide) ?_
            refine lv_iadd hx hb dX1_hinted_109 ?_
            refine lv_iload hx hb dX1_hinted_110 (lv_at hl 2 rfl) ?_
            refine lv_irem hx hb dX1_hinted_112 (by rw [em]; decide) ?_
            refine lv_goto (tgt := 126) hx hb dX1_hinted_113 (by decide) ?_
            exact W.iret hx hb hr (fun t ht hW => ⟨_, rfl, by show Int32.toInt _ = _; rw [hgam, ← ex]; unfold hintS; rw [if_neg c_95, if_pos (by omega)]; exact u1, ht⟩) (fun q h => by cases h) dX1_hinted_126
        · have c_95 := (ar_eq0 _).mp c_95
          refine lv_iload hx hb dX1_hinted_98 (lv_at hl 0 rfl) ?_
          exact W.iret (v := v_90) hx hb hr (fun t ht hW => ⟨_, rfl, by show Int32.toInt _ = _; rw [hgam, ← ex]; unfold hintS; rw [if_pos c_95]; exact hh1, ht⟩) (fun q h => by cases h) dX1_hinted_100
      · obtain ⟨hl1, hh1⟩ := mh_yeA f0 f1 hlo c_68
        refine lv_iload hx hb dX1_hinted_71 (lv_at hl 1 rfl) ?_
        refine lv_iconst (v := 1) hx hb dX1_hinted_73 (by decide) ?_
        refine lv_isub hx hb dX1_hinted_74 ?_
        refine lv_topi (fun v_75 ev_75 => ?_)
        refine lv_istore (lv' := [(7, .int v_75), (8, .int 0), (6, .int v_31), (5, .int v_22), (4, .int 261888), (0, .ref h0), (1, .int v), (2, .int h), (3, .int k)]) hx hb dX1_hinted_75 hl (by decide) rfl (fun ls hl => ?_)
        refine lv_goto (tgt := 92) hx hb dX1_hinted_77 (by decide) ?_
        rw [← ev_75] at hl1
        obtain ⟨u1, u2⟩ := mh_uA f0 f1 em hh1
        refine lv_iload_n hx hb dX1_hinted_92 rfl (lv_at hl 7 rfl) ?_
        refine lv_iconst (v := 1) hx hb dX1_hinted_93 (by decide) ?_
        refine lv_iand hx hb dX1_hinted_94 ?_
        refine lv_if_ne (tgt := 101) hx hb dX1_hinted_95 (by decide) (fun c_95 => ?_) (fun c_95 => ?_)
        · rw [ar_eq0] at c_95
          refine lv_iload hx hb dX1_hinted_101 (lv_at hl 0 rfl) ?_
          refine lv_if_le (tgt := 116) hx hb dX1_hinted_103 (by decide) (fun c_103 => ?_) (fun c_103 => ?_)
          · rw [ar_le0, hl1] at c_103
            refine lv_iload hx hb dX1_hinted_116 (lv_at hl 1 rfl) ?_
            refine lv_iload hx hb dX1_hinted_118 (lv_at hl 2 rfl) ?_
            refine lv_iadd hx hb dX1_hinted_120 ?_
            refine lv_iconst (v := 1) hx hb dX1_hinted_121 (by decide) ?_
            refine lv_isub hx hb dX1_hinted_122 ?_
            refine lv_iload hx hb dX1_hinted_123 (lv_at hl 2 rfl) ?_
            refine lv_irem hx hb dX1_hinted_125 (by rw [em]; decide) ?_
            exact W.iret hx hb hr (fun t ht hW => ⟨_, rfl, by show Int32.toInt _ = _; rw [hgam, ← ex]; unfold hintS; rw [if_neg c_95, if_neg (by omega)]; exact u2, ht⟩) (fun q h => by cases h) dX1_hinted_126
          · rw [ar_le0, hl1] at c_103
            refine lv_iload hx hb dX1_hinted_106 (lv_at hl 1 rfl) ?_
            refine lv_iconst (v := 1) hx hb dX1_hinted_108 (by decide) ?_
            refine lv_iadd hx hb dX1_hinted_109 ?_
            refine lv_iload hx hb dX1_hinted_110 (lv_at hl 2 rfl) ?_
            refine lv_irem hx hb dX1_hinted_112 (by rw [em]; decide) ?_
            refine lv_goto (tgt := 126) hx hb dX1_hinted_113 (by decide) ?_
            exact W.iret hx hb hr (fun t ht hW => ⟨_, rfl, by show Int32.toInt _ = _; rw [hgam, ← ex]; unfold hintS; rw [if_neg c_95, if_pos (by omega)]; exact u1, ht⟩) (fun q h => by cases h) dX1_hinted_126
        · have c_95 := (ar_eq0 _).mp c_95
          refine lv_iload hx hb dX1_hinted_98 (lv_at hl 1 rfl) ?_
          exact W.iret (v := 0) hx hb hr (fun t ht hW => ⟨_, rfl, by show Int32.toInt _ = _; rw [hgam, ← ex]; unfold hintS; rw [if_pos c_95]; exact hh1, ht⟩) (fun q h => by cases h) dX1_hinted_100
  · have hgam : gamJ k = 95232 := if_pos c_3
    refine lv_ldc hx hb hown (hts _ q203) dX1_hinted_6 ?_
    refine lv_goto (tgt := 13) hx hb dX1_hinted_8 (by decide) ?_
    refine lv_istore (lv' := [(4, .int 95232), (0, .ref h0), (1, .int v), (2, .int h), (3, .int k)]) hx hb dX1_hinted_13 hl (by decide) rfl (fun ls hl => ?_)
    refine lv_iload_n hx hb dX1_hinted_15 rfl (lv_at hl 2 rfl) ?_
    refine lv_ldc hx hb hown (hts _ q180) dX1_hinted_16 ?_
    refine lv_iand hx hb dX1_hinted_18 ?_
    refine lv_ldc hx hb hown (hts _ q181) dX1_hinted_19 ?_
    refine lv_irem hx hb dX1_hinted_21 (by decide) ?_
    refine lv_topi (fun v_22 ev_22 => ?_)
    refine lv_istore (lv' := [(5, .int v_22), (4, .int 95232), (0, .ref h0), (1, .int v), (2, .int h), (3, .int k)]) hx hb dX1_hinted_22 hl (by decide) rfl (fun ls hl => ?_)
    refine lv_ldc hx hb hown (hts _ q205) dX1_hinted_24 ?_
    refine lv_iconst (v := 2) hx hb dX1_hinted_26 (by decide) ?_
    refine lv_iload hx hb dX1_hinted_27 (lv_at hl 1 rfl) ?_
    refine lv_imul hx hb dX1_hinted_29 ?_
    refine lv_idiv hx hb dX1_hinted_30 (by decide) ?_
    refine lv_topi (fun v_31 ev_31 => ?_)
    refine lv_istore (lv' := [(6, .int v_31), (5, .int v_22), (4, .int 95232), (0, .ref h0), (1, .int v), (2, .int h), (3, .int k)]) hx hb dX1_hinted_31 hl (by decide) rfl (fun ls hl => ?_)
    refine lv_iload hx hb dX1_hinted_33 (lv_at hl 1 rfl) ?_
    refine lv_iconst (v := 2) hx hb dX1_hinted_35 (by decide) ?_
    refine lv_iload hx hb dX1_hinted_36 (lv_at hl 2 rfl) ?_
    refine lv_imul hx hb dX1_hinted_38 ?_
    refine lv_irem hx hb dX1_hinted_39 (by decide) ?_
    refine lv_topi (fun v_40 ev_40 => ?_)
    refine lv_istore (lv' := [(7, .int v_40), (6, .int v_31), (5, .int v_22), (4, .int 95232), (0, .ref h0), (1, .int v), (2, .int h), (3, .int k)]) hx hb dX1_hinted_40 hl (by decide) rfl (fun ls hl => ?_)
    have ex : v_22 = fairJ v := ev_22
    rw [← ex] at f0 f1
    have em : v_31 = 44 := by rw [ev_31]; decide
    have elo : v_40.toInt = v_22.toInt % (2 * 95232) := by rw [ev_40]; exact mh_lowB f0
    refine lv_iload hx hb dX1_hinted_42 (lv_at hl 0 rfl) ?_
    refine lv_iload hx hb dX1_hinted_44 (lv_at hl 3 rfl) ?_
    refine lv_icmp_le (tgt := 58) hx hb dX1_hinted_46 (by decide) (fun c_46 => ?_) (fun c_46 => ?_)
    · have hlo := mh_leB elo c_46
      refine lv_iconst (v := 0) hx hb dX1_hinted_58 (by decide) ?_
      refine lv_istore (lv' := [(8, .int 0), (7, .int v_40), (6, .int v_31), (5, .int v_22), (4, .int 95232), (0, .ref h0), (1, .int v), (2, .int h), (3, .int k)]) hx hb dX1_hinted_59 hl (by decide) rfl (fun ls hl => ?_)
      refine lv_iload hx hb dX1_hinted_61 (lv_at hl 3 rfl) ?_
      refine lv_iload hx hb dX1_hinted_63 (lv_at hl 1 rfl) ?_
      refine lv_isub hx hb dX1_hinted_65 ?_
      refine lv_ldc hx hb hown (hts _ q205) dX1_hinted_66 ?_
      refine lv_icmp_ne (tgt := 80) hx hb dX1_hinted_68 (by decide) (fun c_68 => ?_) (fun c_68 => ?_)
      · obtain ⟨hl1, hh1⟩ := mh_noB f0 f1 hlo c_68
        refine lv_iload hx hb dX1_hinted_80 (lv_at hl 3 rfl) ?_
        refine lv_iload hx hb dX1_hinted_82 (lv_at hl 1 rfl) ?_
        refine lv_isub hx hb dX1_hinted_84 ?_
        refine lv_iconst (v := 2) hx hb dX1_hinted_85 (by decide) ?_
        refine lv_iload hx hb dX1_hinted_86 (lv_at hl 4 rfl) ?_
        refine lv_imul hx hb dX1_hinted_88 ?_
        refine lv_idiv hx hb dX1_hinted_89 (by decide) ?_
        refine lv_topi (fun v_90 ev_90 => ?_)
        refine lv_istore (lv' := [(8, .int v_90), (7, .int v_40), (6, .int v_31), (5, .int v_22), (4, .int 95232), (0, .ref h0), (1, .int v), (2, .int h), (3, .int k)]) hx hb dX1_hinted_90 hl (by decide) rfl (fun ls hl => ?_)
        rw [← ev_90] at hh1
        obtain ⟨u1, u2⟩ := mh_uB f0 f1 em hh1
        refine lv_iload_n hx hb dX1_hinted_92 rfl (lv_at hl 7 rfl) ?_
        refine lv_iconst (v := 1) hx hb dX1_hinted_93 (by decide) ?_
        refine lv_iand hx hb dX1_hinted_94 ?_
        refine lv_if_ne (tgt := 101) hx hb dX1_hinted_95 (by decide) (fun c_95 => ?_) (fun c_95 => ?_)
        · rw [ar_eq0] at c_95
          refine lv_iload hx hb dX1_hinted_101 (lv_at hl 1 rfl) ?_
          refine lv_if_le (tgt := 116) hx hb dX1_hinted_103 (by decide) (fun c_103 => ?_) (fun c_103 => ?_)
          · rw [ar_le0, hl1] at c_103
            refine lv_iload hx hb dX1_hinted_116 (lv_at hl 0 rfl) ?_
            refine lv_iload hx hb dX1_hinted_118 (lv_at hl 2 rfl) ?_
            refine lv_iadd hx hb dX1_hinted_120 ?_
            refine lv_iconst (v := 1) hx hb dX1_hinted_121 (by decide) ?_
            refine lv_isub hx hb dX1_hinted_122 ?_
            refine lv_iload hx hb dX1_hinted_123 (lv_at hl 2 rfl) ?_
            refine lv_irem hx hb dX1_hinted_125 (by rw [em]; decide) ?_
            exact W.iret hx hb hr (fun t ht hW => ⟨_, rfl, by show Int32.toInt _ = _; rw [hgam, ← ex]; unfold hintS; rw [if_neg c_95, if_neg (by omega)]; exact u2, ht⟩) (fun q h => by cases h) dX1_hinted_126
          · rw [ar_le0, hl1] at c_103
            refine lv_iload hx hb dX1_hinted_106 (lv_at hl 0 rfl) ?_
            refine lv_iconst (v := 1) hx hb dX1_hinted_108 (by decide) ?_
            refine lv_iadd hx hb dX1_hinted_109 ?_
            refine lv_iload hx hb dX1_hinted_110 (lv_at hl 2 rfl) ?_
            refine lv_irem hx hb dX1_hinted_112 (by rw [em]; decide) ?_
            refine lv_goto (tgt := 126) hx hb dX1_hinted_113 (by decide) ?_
            exact W.iret hx hb hr (fun t ht hW => ⟨_, rfl, by show Int32.toInt _ = _; rw [hgam, ← ex]; unfold hintS; rw [if_neg c_95, if_pos (by omega)]; exact u1, ht⟩) (fun q h => by cases h) dX1_hinted_126
        · have c_95 := (ar_eq0 _).mp c_95
          refine lv_iload hx hb dX1_hinted_98 (lv_at hl 0 rfl) ?_
          exact W.iret (v := v_90) hx hb hr (fun t ht hW => ⟨_, rfl, by show Int32.toInt _ = _; rw [hgam, ← ex]; unfold hintS; rw [if_pos c_95]; exact hh1, ht⟩) (fun q h => by cases h) dX1_hinted_100
      · obtain ⟨hl1, hh1⟩ := mh_yeB f0 f1 hlo c_68
        refine lv_iload hx hb dX1_hinted_71 (lv_at hl 1 rfl) ?_
        refine lv_iconst (v := 1) hx hb dX1_hinted_73 (by decide) ?_
        refine lv_isub hx hb dX1_hinted_74 ?_
        refine lv_topi (fun v_75 ev_75 => ?_)
        refine lv_istore (lv' := [(7, .int v_75), (8, .int 0), (6, .int v_31), (5, .int v_22), (4, .int 95232), (0, .ref h0), (1, .int v), (2, .int h), (3, .int k)]) hx hb dX1_hinted_75 hl (by decide) rfl (fun ls hl => ?_)
        refine lv_goto (tgt := 92) hx hb dX1_hinted_77 (by decide) ?_
        rw [← ev_75] at hl1
        obtain ⟨u1, u2⟩ := mh_uB f0 f1 em hh1
        refine lv_iload_n hx hb dX1_hinted_92 rfl (lv_at hl 7 rfl) ?_
        refine lv_iconst (v := 1) hx hb dX1_hinted_93 (by decide) ?_
        refine lv_iand hx hb dX1_hinted_94 ?_
        refine lv_if_ne (tgt := 101) hx hb dX1_hinted_95 (by decide) (fun c_95 => ?_) (fun c_95 => ?_)
        · rw [ar_eq0] at c_95
          refine lv_iload hx hb dX1_hinted_101 (lv_at hl 0 rfl) ?_
          refine lv_if_le (tgt := 116) hx hb dX1_hinted_103 (by decide) (fun c_103 => ?_) (fun c_103 => ?_)
          · rw [ar_le0, hl1] at c_103
            refine lv_iload hx hb dX1_hinted_116 (lv_at hl 1 rfl) ?_
            refine lv_iload hx hb dX1_hinted_118 (lv_at hl 2 rfl) ?_
            refine lv_iadd hx hb dX1_hinted_120 ?_
            refine lv_iconst (v := 1) hx hb dX1_hinted_121 (by decide) ?_
            refine lv_isub hx hb dX1_hinted_122 ?_
            refine lv_iload hx hb dX1_hinted_123 (lv_at hl 2 rfl) ?_
            refine lv_irem hx hb dX1_hinted_125 (by rw [em]; decide) ?_
            exact W.iret hx hb hr (fun t ht hW => ⟨_, rfl, by show Int32.toInt _ = _; rw [hgam, ← ex]; unfold hintS; rw [if_neg c_95, if_neg (by omega)]; exact u2, ht⟩) (fun q h => by cases h) dX1_hinted_126
          · rw [ar_le0, hl1] at c_103
            refine lv_iload hx hb dX1_hinted_106 (lv_at hl 1 rfl) ?_
            refine lv_iconst (v := 1) hx hb dX1_hinted_108 (by decide) ?_
            refine lv_iadd hx hb dX1_hinted_109 ?_
            refine lv_iload hx hb dX1_hinted_110 (lv_at hl 2 rfl) ?_
            refine lv_irem hx hb dX1_hinted_112 (by rw [em]; decide) ?_
            refine lv_goto (tgt := 126) hx hb dX1_hinted_113 (by decide) ?_
            exact W.iret hx hb hr (fun t ht hW => ⟨_, rfl, by show Int32.toInt _ = _; rw [hgam, ← ex]; unfold hintS; rw [if_neg c_95, if_pos (by omega)]; exact u1, ht⟩) (fun q h => by cases h) dX1_hinted_126
        · have c_95 := (ar_eq0 _).mp c_95
          refine lv_iload hx hb dX1_hinted_98 (lv_at hl 1 rfl) ?_
          exact W.iret (v := 0) hx hb hr (fun t ht hW => ⟨_, rfl, by show Int32.toInt _ = _; rw [hgam, ← ex]; unfold hintS; rw [if_pos c_95]; exact hh1, ht⟩) (fun q h => by cases h) dX1_hinted_100
    · have hlo := mh_gtB elo c_46
      refine lv_iload hx hb dX1_hinted_49 (lv_at hl 0 rfl) ?_
      refine lv_iconst (v := 2) hx hb dX1_hinted_51 (by decide) ?_
      refine lv_iload hx hb dX1_hinted_52 (lv_at hl 3 rfl) ?_
      refine lv_imul hx hb dX1_hinted_54 ?_
      refine lv_isub hx hb dX1_hinted_55 ?_
      refine lv_topi (fun v_56 ev_56 => ?_)
      refine lv_istore (lv' := [(7, .int v_56), (6, .int v_31), (5, .int v_22), (4, .int 95232), (0, .ref h0), (1, .int v), (2, .int h), (3, .int k)]) hx hb dX1_hinted_56 hl (by decide) rfl (fun ls hl => ?_)
      rw [← ev_56] at hlo
      refine lv_iconst (v := 0) hx hb dX1_hinted_58 (by decide) ?_
      refine lv_istore (lv' := [(8, .int 0), (7, .int v_56), (6, .int v_31), (5, .int v_22), (4, .int 95232), (0, .ref h0), (1, .int v), (2, .int h), (3, .int k)]) hx hb dX1_hinted_59 hl (by decide) rfl (fun ls hl => ?_)
      refine lv_iload hx hb dX1_hinted_61 (lv_at hl 3 rfl) ?_
      refine lv_iload hx hb dX1_hinted_63 (lv_at hl 1 rfl) ?_
      refine lv_isub hx hb dX1_hinted_65 ?_
      refine lv_ldc hx hb hown (hts _ q205) dX1_hinted_66 ?_
      refine lv_icmp_ne (tgt := 80) hx hb dX1_hinted_68 (by decide) (fun c_68 => ?_) (fun c_68 => ?_)
      · obtain ⟨hl1, hh1⟩ := mh_noB f0 f1 hlo c_68
        refine lv_iload hx hb dX1_hinted_80 (lv_at hl 3 rfl) ?_
        refine lv_iload hx hb dX1_hinted_82 (lv_at hl 1 rfl) ?_
        refine lv_isub hx hb dX1_hinted_84 ?_
        refine lv_iconst (v := 2) hx hb dX1_hinted_85 (by decide) ?_
        refine lv_iload hx hb dX1_hinted_86 (lv_at hl 4 rfl) ?_
        refine lv_imul hx hb dX1_hinted_88 ?_
        refine lv_idiv hx hb dX1_hinted_89 (by decide) ?_
        refine lv_topi (fun v_90 ev_90 => ?_)
        refine lv_istore (lv' := [(8, .int v_90), (7, .int v_56), (6, .int v_31), (5, .int v_22), (4, .int 95232), (0, .ref h0), (1, .int v), (2, .int h), (3, .int k)]) hx hb dX1_hinted_90 hl (by decide) rfl (fun ls hl => ?_)
        rw [← ev_90] at hh1
        obtain ⟨u1, u2⟩ := mh_uB f0 f1 em hh1
        refine lv_iload_n hx hb dX1_hinted_92 rfl (lv_at hl 7 rfl) ?_
        refine lv_iconst (v := 1) hx hb dX1_hinted_93 (by decide) ?_
        refine lv_iand hx hb dX1_hinted_94 ?_
        refine lv_if_ne (tgt := 101) hx hb dX1_hinted_95 (by decide) (fun c_95 => ?_) (fun c_95 => ?_)
        · rw [ar_eq0] at c_95
          refine lv_iload hx hb dX1_hinted_101 (lv_at hl 1 rfl) ?_
          refine lv_if_le (tgt := 116) hx hb dX1_hinted_103 (by decide) (fun c_103 => ?_) (fun c_103 => ?_)
          · rw [ar_le0, hl1] at c_103
            refine lv_iload hx hb dX1_hinted_116 (lv_at hl 0 rfl) ?_
            refine lv_iload hx hb dX1_hinted_118 (lv_at hl 2 rfl) ?_
            refine lv_iadd hx hb dX1_hinted_120 ?_
            refine lv_iconst (v := 1) hx hb dX1_hinted_121 (by decide) ?_
            refine lv_isub hx hb dX1_hinted_122 ?_
            refine lv_iload hx hb dX1_hinted_123 (lv_at hl 2 rfl) ?_
            refine lv_irem hx hb dX1_hinted_125 (by rw [em]; decide) ?_
            exact W.iret hx hb hr (fun t ht hW => ⟨_, rfl, by show Int32.toInt _ = _; rw [hgam, ← ex]; unfold hintS; rw [if_neg c_95, if_neg (by omega)]; exact u2, ht⟩) (fun q h => by cases h) dX1_hinted_126
          · rw [ar_le0, hl1] at c_103
            refine lv_iload hx hb dX1_hinted_106 (lv_at hl 0 rfl) ?_
            refine lv_iconst (v := 1) hx hb dX1_hinted_108 (by decide) ?_
            refine lv_iadd hx hb dX1_hinted_109 ?_
            refine lv_iload hx hb dX1_hinted_110 (lv_at hl 2 rfl) ?_
            refine lv_irem hx hb dX1_hinted_112 (by rw [em]; decide) ?_
            refine lv_goto (tgt := 126) hx hb dX1_hinted_113 (by decide) ?_
            exact W.iret hx hb hr (fun t ht hW => ⟨_, rfl, by show Int32.toInt _ = _; rw [hgam, ← ex]; unfold hintS; rw [if_neg c_95, if_pos (by omega)]; exact u1, ht⟩) (fun q h => by cases h) dX1_hinted_126
        · have c_95 := (ar_eq0 _).mp c_95
          refine lv_iload hx hb dX1_hinted_98 (lv_at hl 0 rfl) ?_
          exact W.iret (v := v_90) hx hb hr (fun t ht hW => ⟨_, rfl, by show Int32.toInt _ = _; rw [hgam, ← ex]; unfold hintS; rw [if_pos c_95]; exact hh1, ht⟩) (fun q h => by cases h) dX1_hinted_100
      · obtain ⟨hl1, hh1⟩ := mh_yeB f0 f1 hlo c_68
        refine lv_iload hx hb dX1_hinted_71 (lv_at hl 1 rfl) ?_
        refine lv_iconst (v := 1) hx hb dX1_hinted_73 (by decide) ?_
        refine lv_isub hx hb dX1_hinted_74 ?_
        refine lv_topi (fun v_75 ev_75 => ?_)
        refine lv_istore (lv' := [(7, .int v_75), (8, .int 0), (6, .int v_31), (5, .int v_22), (4, .int 95232), (0, .ref h0), (1, .int v), (2, .int h), (3, .int k)]) hx hb dX1_hinted_75 hl (by decide) rfl (fun ls hl => ?_)
        refine lv_goto (tgt := 92) hx hb dX1_hinted_77 (by decide) ?_
        rw [← ev_75] at hl1
        obtain ⟨u1, u2⟩ := mh_uB f0 f1 em hh1
        refine lv_iload_n hx hb dX1_hinted_92 rfl (lv_at hl 7 rfl) ?_
        refine lv_iconst (v := 1) hx hb dX1_hinted_93 (by decide) ?_
        refine lv_iand hx hb dX1_hinted_94 ?_
        refine lv_if_ne (tgt := 101) hx hb dX1_hinted_95 (by decide) (fun c_95 => ?_) (fun c_95 => ?_)
        · rw [ar_eq0] at c_95
          refine lv_iload hx hb dX1_hinted_101 (lv_at hl 0 rfl) ?_
          refine lv_if_le (tgt := 116) hx hb dX1_hinted_103 (by decide) (fun c_103 => ?_) (fun c_103 => ?_)
          · rw [ar_le0, hl1] at c_103
            refine lv_iload hx hb dX1_hinted_116 (lv_at hl 1 rfl) ?_
            refine lv_iload hx hb dX1_hinted_118 (lv_at hl 2 rfl) ?_
            refine lv_iadd hx hb dX1_hinted_120 ?_
            refine lv_iconst (v := 1) hx hb dX1_hinted_121 (by decide) ?_
            refine lv_isub hx hb dX1_hinted_122 ?_
            refine lv_iload hx hb dX1_hinted_123 (lv_at hl 2 rfl) ?_
            refine lv_irem hx hb dX1_hinted_125 (by rw [em]; decide) ?_
            exact W.iret hx hb hr (fun t ht hW => ⟨_, rfl, by show Int32.toInt _ = _; rw [hgam, ← ex]; unfold hintS; rw [if_neg c_95, if_neg (by omega)]; exact u2, ht⟩) (fun q h => by cases h) dX1_hinted_126
          · rw [ar_le0, hl1] at c_103
            refine lv_iload hx hb dX1_hinted_106 (lv_at hl 1 rfl) ?_
            refine lv_iconst (v := 1) hx hb dX1_hinted_108 (by decide) ?_
            refine lv_iadd hx hb dX1_hinted_109 ?_
            refine lv_iload hx hb dX1_hinted_110 (lv_at hl 2 rfl) ?_
            refine lv_irem hx hb dX1_hinted_112 (by rw [em]; decide) ?_
            refine lv_goto (tgt := 126) hx hb dX1_hinted_113 (by decide) ?_
            exact W.iret hx hb hr (fun t ht hW => ⟨_, rfl, by show Int32.toInt _ = _; rw [hgam, ← ex]; unfold hintS; rw [if_neg c_95, if_pos (by omega)]; exact u1, ht⟩) (fun q h => by cases h) dX1_hinted_126
        · have c_95 := (ar_eq0 _).mp c_95
          refine lv_iload hx hb dX1_hinted_98 (lv_at hl 1 rfl) ?_
          exact W.iret (v := 0) hx hb hr (fun t ht hW => ⟨_, rfl, by show Int32.toInt _ = _; rw [hgam, ← ex]; unfold hintS; rw [if_pos c_95]; exact hh1, ht⟩) (fun q h => by cases h) dX1_hinted_100
end
section
/-! the transform, in plain numbers (printed by gen/g13.py) -/
def ztL : List Int := [0, 25847, -2608894, -518909, 237124, -777960, -876248, 466468, 1826347, 2353451, -359251, -2091905, 3119733, -2884855, 3111497, 2680103, 2725464, 1024112, -1079900, 3585928, -549488, -1119584, 2619752, -2108549, -2118186, -3859737, -1399561, -3277672, 1757237, -19422, 4010497, 280005, 2706023, 95776, 3077325, 3530437, -1661693, -3592148, -2537516, 3915439, -3861115, -3043716, 3574422, -2867647, 3539968, -300467, 2348700, -539299, -1699267, -1643818, 3505694, -3821735, 3507263, -2140649, -1600420, 3699596, 811944, 531354, 954230, 3881043, 3900724, -2556880, 2071892, -2797779, -3930395, -1528703, -3677745, -3041255, -1452451, 3475950, 2176455, -1585221, -1257611, 1939314, -4083598, -1000202, -3190144, -3157330, -3632928, 126922, 3412210, -983419, 2147896, 2715295, -2967645, -3693493, -411027, -2477047, -671102, -1228525, -22981, -1308169, -381987, 1349076, 1852771, -1430430, -3343383, 264944, 508951, 3097992, 44288, -1100098, 904516, 3958618, -3724342, -8578, 1653064, -3249728, 2389356, -210977, 759969, -1316856, 189548, -3553272, 3159746, -1851402, -2409325, -177440, 1315589, 1341330, 1285669, -1584928, -812732, -1439742, -3019102, -3881060, -3628969, 3839961, 2091667, 3407706, 2316500, 3817976, -3342478, 2244091, -2446433, -3562462, 266997, 2434439, -1235728, 3513181, -3520352, -3759364, -1197226, -3193378, 900702, 1859098, 909542, 819034, 495491, -1613174, -43260, -522500, -655327, -3122442, 2031748, 3207046, -3556995, -525098, -768622, -3595838, 342297, 286988, -2437823, 4108315, 3437287, -3342277, 1735879, 203044, 2842341, 2691481, -2590150, 1265009, 4055324, 1247620, 2486353, 1595974, -3767016, 1250494, 2635921, -3548272, -2994039, 1869119, 1903435, -1050970, -1333058, 1237275, -3318210, -1430225, -451100, 1312455, 3306115, -1962642, -1279661, 1917081, -2546312, -1374803, 1500165, 777191, 2235880, 3406031, -542412, -2831860, -1671176, -1846953, -2584293, -3724270, 594136, -3776993, -2013608, 2432395, 2454455, -164721, 1957272, 3369112, 185531, -1207385, -3183426, 162844, 1616392, 3014001, 810149, 1652634, -3694233, -1799107, -3038916, 3523897, 3866901, 269760, 2213111, -975884, 1717735, 472078, -426683, 1723600, -1803090, 1910376, -1667432, -1104333, -260646, -3833893, -2939036, -2235985, -420899, -2286327, 183443, -976891, 1612842, -3545687, -554416, 3919660, -48306, -1362209, 3937738, 1400424, -846154, 1976782]
def zI (k : Nat) : Int := ztL.getD k 0
def wI (k : Nat) : Int := zI k * 8265825
theorem zI_b {k : Nat} (h : k < 256) : -4190208 ≤ zI k ∧ zI k ≤ 4190208 := co_dec (P := fun k => -4190208 ≤ zI k ∧ zI k ≤ 4190208) (by decide +kernel) h
theorem tr_d {k : Nat} (h : k < 256) : k < 2 ∨ (wI k * wI k - (if k % 2 = 0 then wI (k / 2) else -wI (k / 2))) % 8380417 = 0 := co_dec (P := fun k => k < 2 ∨ (wI k * wI k - (if k % 2 = 0 then wI (k / 2) else -wI (k / 2))) % 8380417 = 0) (by decide +kernel) h
theorem tr_k {k : Nat} (h0 : 2 ≤ k) (h : k < 256) : cg (wI k * wI k) (if k % 2 = 0 then wI (k / 2) else -wI (k / 2)) := by
  rcases tr_d h with q | q
  · omega
  · exact cg.of_mod q
theorem tr_1 : cg (wI 1 * wI 1) (-1) := cg.of_mod (by decide +kernel)
def LV (n : Nat) : Prop := n = 1 ∨ n = 2 ∨ n = 4 ∨ n = 8 ∨ n = 16 ∨ n = 32 ∨ n = 64 ∨ n = 128
def ly (n : Nat) (f : Nat → Int) : Nat → Int := fun i => if i % (2 * n) < n then f i + wI (128 / n + i / (2 * n)) * f (i + n) else f (i - n) - wI (128 / n + i / (2 * n)) * f i
def il (n : Nat) (g : Nat → Int) : Nat → Int := fun i => if i % (2 * n) < n then g i + g (i + n) else -wI (256 / n - 1 - i / (2 * n)) * (g (i - n) - g i)
theorem iv_d {n : Nat} (h : n < 256) : (List.range 8).all (fun e => decide ((-(wI (128 / 2 ^ e + n / (2 * 2 ^ e)) * wI (256 / 2 ^ e - 1 - n / (2 * 2 ^ e))) - 1) % 8380417 = 0)) = true := co_dec (P := fun n => (List.range 8).all (fun e => decide ((-(wI (128 / 2 ^ e + n / (2 * 2 ^ e)) * wI (256 / 2 ^ e - 1 - n / (2 * 2 ^ e))) - 1) % 8380417 = 0)) = true) (by decide +kernel) h
theorem LV.pw {n : Nat} (h : LV n) : ∃ e, e < 8 ∧ n = 2 ^ e := by
  rcases h with h | h | h | h | h | h | h | h
  · exact ⟨0, by decide, h⟩
  · exact ⟨1, by decide, h⟩
  · exact ⟨2, by decide, h⟩
  · exact ⟨3, by decide, h⟩
  · exact ⟨4, by decide, h⟩
  · exact ⟨5, by decide, h⟩
  · exact ⟨6, by decide, h⟩
  · exact ⟨7, by decide, h⟩
theorem iv_k {n i : Nat} (hl : LV n) (h : i < 256) : cg (-(wI (128 / n + i / (2 * n)) * wI (256 / n - 1 - i / (2 * n)))) 1 := by
  obtain ⟨e, he, rfl⟩ := hl.pw
  have h1 := List.all_eq_true.mp (iv_d h) e (List.mem_range.mpr he)
  exact cg.of_mod (of_decide_eq_true h1)
/-- places of a block's two halves -/
theorem lv_lo {n i : Nat} (hl : LV n) (h : i < 256) (c : i % (2 * n) < n) : i + n < 256 ∧ ¬ (i + n) % (2 * n) < n ∧ (i + n) / (2 * n) = i / (2 * n) ∧ i + n - n = i := by
  rcases hl with h | h | h | h | h | h | h | h <;> subst h <;> omega
theorem lv_hi {n i : Nat} (hl : LV n) (h : i < 256) (c : ¬ i % (2 * n) < n) : i - n < 256 ∧ (i - n) % (2 * n) < n ∧ (i - n) / (2 * n) = i / (2 * n) ∧ i - n + n = i := by
  rcases hl with h | h | h | h | h | h | h | h <;> subst h <;> omega
theorem ly_cg {n : Nat} {f g : Nat → Int} (hl : LV n) (h : ∀ i, i < 256 → cg (f i) (g i)) : ∀ i, i < 256 → cg (ly n f i) (ly n g i) := by
  intro i hi
  unfold ly
  by_cases c : i % (2 * n) < n
  · rw [if_pos c, if_pos c]
    exact (h i hi).add (cg.ml _ (h _ (lv_lo hl hi c).1))
  · rw [if_neg c, if_neg c]
    exact (h _ (lv_hi hl hi c).1).sub (cg.ml _ (h i hi))
theorem il_cg {n : Nat} {f g : Nat → Int} (hl : LV n) (h : ∀ i, i < 256 → cg (f i) (g i)) : ∀ i, i < 256 → cg (il n f i) (il n g i) := by
  intro i hi
  unfold il
  by_cases c : i % (2 * n) < n
  · rw [if_pos c, if_pos c]
    exact (h i hi).add (h _ (lv_lo hl hi c).1)
  · rw [if_neg c, if_neg c]
    exact cg.ml _ ((h _ (lv_hi hl hi c).1).sub (h i hi))
theorem il_mul (n : Nat) (c : Int) (g : Nat → Int) (i : Nat) : il n (fun j => c * g j) i = c * il n g i := by
  unfold il
  split
  · grind
  · grind
theorem il_ly {n : Nat} (hl : LV n) (f : Nat → Int) : ∀ i, i < 256 → cg (il n (ly n f) i) (2 * f i) := by
  intro i hi
  unfold il
  by_cases c : i % (2 * n) < n
  · obtain ⟨h1, h2, h3, h4⟩ := lv_lo hl hi c
    rw [if_pos c]
    unfold ly
    rw [if_pos c, if_neg h2, h3, h4]
    exact cg.of (by omega)
  · obtain ⟨h1, h2, h3, h4⟩ := lv_hi hl hi c
    rw [if_neg c]
    unfold ly
    rw [if_neg c, if_pos h2, h3, h4]
    have k := iv_k hl hi
    generalize wI (128 / n + i / (2 * n)) = u at k ⊢
    generalize wI (256 / n - 1 - i / (2 * n)) = v at k ⊢
    refine (cg.of ?_).tr ((cg.mr (2 * f i) k).tr (cg.of ?_))
    · grind
    · omega
def nt : Nat → (Nat → Int) → Nat → Int
  | 0, f => f
  | t + 1, f => ly (128 / 2 ^ t) (nt t f)
def iv : Nat → (Nat → Int) → Nat → Int
  | 0, g => g
  | t + 1, g => il (2 ^ t) (iv t g)
theorem LV_d {t : Nat} (h : t < 8) : LV (128 / 2 ^ t) := by
  rcases (show t = 0 ∨ t = 1 ∨ t = 2 ∨ t = 3 ∨ t = 4 ∨ t = 5 ∨ t = 6 ∨ t = 7 by omega) with h | h | h | h | h | h | h | h <;> subst h <;> simp [LV]
theorem LV_u {t : Nat} (h : t < 8) : LV (2 ^ t) := by
  rcases (show t = 0 ∨ t = 1 ∨ t = 2 ∨ t = 3 ∨ t = 4 ∨ t = 5 ∨ t = 6 ∨ t = 7 by omega) with h | h | h | h | h | h | h | h <;> subst h <;> simp [LV]
theorem nt_cg {f g : Nat → Int} (h : ∀ i, i < 256 → cg (f i) (g i)) : ∀ t, t ≤ 8 → ∀ i, i < 256 → cg (nt t f i) (nt t g i)
  | 0, _ => h
  | t + 1, ht => ly_cg (LV_d (by omega)) (nt_cg h t (by omega))
theorem iv_cg {f g : Nat → Int} (h : ∀ i, i < 256 → cg (f i) (g i)) : ∀ t, t ≤ 8 → ∀ i, i < 256 → cg (iv t f i) (iv t g i)
  | 0, _ => h
  | t + 1, ht => il_cg (LV_u (by omega)) (iv_cg h t (by omega))
theorem iv_mul (c : Int) (g : Nat → Int) : ∀ t i, iv t (fun j => c * g j) i = c * iv t g i
  | 0, _ => rfl
  | t + 1, i => by
    show il (2 ^ t) (iv t fun j => c * g j) i = c * il (2 ^ t) (iv t g) i
    rw [← il_mul]
    congr 1
    funext j
    exact iv_mul c g t j
theorem iv_nt (f : Nat → Int) : ∀ t, t ≤ 8 → ∀ i, i < 256 → cg (iv t (nt 8 f) i) (2 ^ t * nt (8 - t) f i)
  | 0, _ => fun i _ => cg.of (by rw [Int.pow_zero, Int.one_mul]; rfl)
  | t + 1, ht => by
    intro i hi
    have h := iv_nt f t (by omega)
    have hl : LV (2 ^ t) := LV_u (by omega)
    refine ((il_cg hl h i hi).tr (cg.of (il_mul _ _ _ _))).tr ?_
    have e : 8 - t = (7 - t) + 1 := by omega
    have e2 : 128 / 2 ^ (7 - t) = 2 ^ t := by
      rcases (show t = 0 ∨ t = 1 ∨ t = 2 ∨ t = 3 ∨ t = 4 ∨ t = 5 ∨ t = 6 ∨ t = 7 by omega) with h | h | h | h | h | h | h | h <;> subst h <;> decide
    have e3 : nt (8 - t) f = ly (2 ^ t) (nt (7 - t) f) := by rw [e]; show ly (128 / 2 ^ (7 - t)) _ = _; rw [e2]
    have e4 : 8 - (t + 1) = 7 - t := by omega
    rw [e3, e4]
    refine (cg.ml _ (il_ly hl _ i hi)).tr (cg.of ?_)
    rw [Int.pow_succ, Int.mul_assoc]
theorem iv_nt8 (f : Nat → Int) (i : Nat) (hi : i < 256) : cg (iv 8 (nt 8 f) i) (256 * f i) := by
  have h := iv_nt f 8 (by decide) i hi
  have e : (2 : Int) ^ 8 = 256 := by decide
  rw [e] at h
  exact h
/-! evaluation -/
def pb (f : Nat → Int) (x : Int) (b n : Nat) : Int := fb_si (fun i => f (b + i) * x ^ i) n
theorem fb_si_cg {f g : Nat → Int} : ∀ {n : Nat}, (∀ k, k < n → cg (f k) (g k)) → cg (fb_si f n) (fb_si g n)
  | 0, _ => cg.rf _
  | n + 1, h => by
    rw [fb_si_succ, fb_si_succ]
    exact (fb_si_cg (fun k hk => h k (by omega))).add (h n (by omega))
theorem pb_split (f : Nat → Int) (x : Int) (b n : Nat) : pb f x b (n + n) = pb f x b n + x ^ n * pb f x (b + n) n := by
  unfold pb
  rw [fb_si_split, ← fb_si_mul]
  congr 1
  refine fb_si_cong fun k _ => ?_
  rw [Int.pow_add, ← Nat.add_assoc]
  grind
theorem ly_at {n b i : Nat} (hi : i < n) (f : Nat → Int) : ly n f (2 * n * b + i) = f (2 * n * b + i) + wI (128 / n + b) * f (2 * n * b + i + n) := by
  unfold ly
  have h1 : (2 * n * b + i) % (2 * n) = i := by rw [Nat.mul_add_mod]; exact Nat.mod_eq_of_lt (by omega)
  have h2 : (2 * n * b + i) / (2 * n) = b := by
    rw [Nat.mul_add_div (by omega), Nat.div_eq_of_lt (by omega)]
    rfl
  rw [h1, h2, if_pos hi]
theorem ly_at2 {n b i : Nat} (hi : i < n) (f : Nat → Int) : ly n f (2 * n * b + n + i) = f (2 * n * b + i) - wI (128 / n + b) * f (2 * n * b + n + i) := by
  unfold ly
  have h1 : (2 * n * b + n + i) % (2 * n) = n + i := by rw [Nat.add_assoc, Nat.mul_add_mod]; exact Nat.mod_eq_of_lt (by omega)
  have h2 : (2 * n * b + n + i) / (2 * n) = b := by
    rw [Nat.add_assoc, Nat.mul_add_div (by omega), Nat.div_eq_of_lt (by omega)]
    rfl
  have h3 : 2 * n * b + n + i - n = 2 * n * b + i := by omega
  rw [h1, h2, if_neg (by omega), h3]
theorem pb_lo {n b : Nat} (f : Nat → Int) {x : Int} (h : cg (x ^ n) (wI (128 / n + b))) : cg (pb f x (2 * n * b) (n + n)) (pb (ly n f) x (2 * n * b) n) := by
  rw [pb_split]
  refine ((cg.rf _).add (cg.mr _ h)).tr (cg.of ?_)
  unfold pb
  rw [← fb_si_mul, ← fb_si_add]
  refine fb_si_cong fun k hk => ?_
  rw [ly_at hk, show 2 * n * b + n + k = 2 * n * b + k + n by omega]
  grind
theorem pb_hi {n b : Nat} (f : Nat → Int) {x : Int} (h : cg (x ^ n) (-wI (128 / n + b))) : cg (pb f x (2 * n * b) (n + n)) (pb (ly n f) x (2 * n * b + n) n) := by
  rw [pb_split]
  refine ((cg.rf _).add (cg.mr _ h)).tr (cg.of ?_)
  unfold pb
  rw [← fb_si_mul, ← fb_si_add]
  refine fb_si_cong fun k hk => ?_
  rw [ly_at2 hk]
  grind
def sg (j n : Nat) : Int := if j / n % 2 = 0 then wI (128 / n + j / (2 * n)) else -wI (128 / n + j / (2 * n))
theorem pb_st {n j : Nat} (hn : 0 < n) (f : Nat → Int) {x : Int} (h : cg (x ^ n) (sg j n)) : cg (pb f x (j / (2 * n) * (2 * n)) (n + n)) (pb (ly n f) x (j / n * n) n) := by
  have e0 : j / (2 * n) = j / n / 2 := by rw [Nat.mul_comm, Nat.div_div_eq_div_mul]
  have e1 : j / (2 * n) * (2 * n) = 2 * n * (j / (2 * n)) := Nat.mul_comm _ _
  unfold sg at h
  by_cases c : j / n % 2 = 0
  · rw [if_pos c] at h
    have e2 : j / n * n = 2 * n * (j / (2 * n)) := by
      have : j / n = 2 * (j / (2 * n)) := by omega
      rw [this]
      grind
    rw [e1, e2]
    exact pb_lo f h
  · rw [if_neg c] at h
    have e2 : j / n * n = 2 * n * (j / (2 * n)) + n := by
      have : j / n = 2 * (j / (2 * n)) + 1 := by omega
      rw [this]
      grind
    rw [e1, e2]
    exact pb_hi f h
theorem sg_sq {x : Int} {n j k : Nat} (h : cg (x ^ n) (sg j n)) (hk : 128 / n + j / (2 * n) = k) (h0 : 2 ≤ k) (h1 : k < 256) : cg (x ^ (n + n)) (if k % 2 = 0 then wI (k / 2) else -wI (k / 2)) := by
  rw [Int.pow_add]
  refine (h.mul h).tr (cg.tr (cg.of ?_) (tr_k h0 h1))
  unfold sg
  rw [hk]
  split
  · rfl
  · grind
def xr (j : Nat) : Int := sg j 1
theorem xr_ok {j : Nat} (hj : j < 256) : cg (xr j ^ 1) (sg j 1) ∧ cg (xr j ^ 2) (sg j 2) ∧ cg (xr j ^ 4) (sg j 4) ∧ cg (xr j ^ 8) (sg j 8) ∧ cg (xr j ^ 16) (sg j 16) ∧ cg (xr j ^ 32) (sg j 32) ∧ cg (xr j ^ 64) (sg j 64) ∧ cg (xr j ^ 128) (sg j 128) ∧ cg (xr j ^ 256) (-1) := by
  have p1 : cg (xr j ^ 1) (sg j 1) := cg.of (by rw [Int.pow_succ, Int.pow_zero, Int.one_mul]; rfl)
  have p2 : cg (xr j ^ 2) (sg j 2) := by
    have q := sg_sq (k := 128 + j / 2) p1 (by omega) (by omega) (by omega)
    have e1 : (128 + j / 2) % 2 = j / 2 % 2 := by omega
    have e2 : (128 + j / 2) / 2 = 128 / 2 + j / (2 * 2) := by omega
    rw [e1, e2] at q
    exact q
  have p4 : cg (xr j ^ 4) (sg j 4) := by
    have q := sg_sq (k := 64 + j / 4) p2 (by omega) (by omega) (by omega)
    have e1 : (64 + j / 4) % 2 = j / 4 % 2 := by omega
    have e2 : (64 + j / 4) / 2 = 128 / 4 + j / (2 * 4) := by omega
    rw [e1, e2] at q
    exact q
  have p8 : cg (xr j ^ 8) (sg j 8) := by
    have q := sg_sq (k := 32 + j / 8) p4 (by omega) (by omega) (by omega)
    have e1 : (32 + j / 8) % 2 = j / 8 % 2 := by omega
    have e2 : (32 + j / 8) / 2 = 128 / 8 + j / (2 * 8) := by omega
    rw [e1, e2] at q
    exact q
  have p16 : cg (xr j ^ 16) (sg j 16) := by
    have q := sg_sq (k := 16 + j / 16) p8 (by omega) (by omega) (by omega)
    have e1 : (16 + j / 16) % 2 = j / 16 % 2 := by omega
    have e2 : (16 + j / 16) / 2 = 128 / 16 + j / (2 * 16) := by omega
    rw [e1, e2] at q
    exact q
  have p32 : cg (xr j ^ 32) (sg j 32) := by
    have q := sg_sq (k := 8 + j / 32) p16 (by omega) (by omega) (by omega)
    have e1 : (8 + j / 32) % 2 = j / 32 % 2 := by omega
    have e2 : (8 + j / 32) / 2 = 128 / 32 + j / (2 * 32) := by omega
    rw [e1, e2] at q
    exact q
  have p64 : cg (xr j ^ 64) (sg j 64) := by
    have q := sg_sq (k := 4 + j / 64) p32 (by omega) (by omega) (by omega)
    have e1 : (4 + j / 64) % 2 = j / 64 % 2 := by omega
    have e2 : (4 + j / 64) / 2 = 128 / 64 + j / (2 * 64) := by omega
    rw [e1, e2] at q
    exact q
  have p128 : cg (xr j ^ 128) (sg j 128) := by
    have q := sg_sq (k := 2 + j / 128) p64 (by omega) (by omega) (by omega)
    have e1 : (2 + j / 128) % 2 = j / 128 % 2 := by omega
    have e2 : (2 + j / 128) / 2 = 128 / 128 + j / (2 * 128) := by omega
    rw [e1, e2] at q
    exact q
  have p256 : cg (xr j ^ 256) (-1) := by
    have e : xr j ^ 256 = xr j ^ 128 * xr j ^ 128 := by rw [← Int.pow_add]
    rw [e]
    refine (p128.mul p128).tr (cg.tr (cg.of ?_) tr_1)
    have e2 : 128 / 128 + j / (2 * 128) = 1 := by omega
    unfold sg
    rw [e2]
    split
    · rfl
    · grind
  exact ⟨p1, p2, p4, p8, p16, p32, p64, p128, p256⟩
theorem ev_nt {j : Nat} (hj : j < 256) (f : Nat → Int) : cg (pb f (xr j) 0 256) (nt 8 f j) := by
  obtain ⟨p1, p2, p4, p8, p16, p32, p64, p128, -⟩ := xr_ok hj
  have a7 := pb_st (by decide) (nt 0 f) p128
  have a6 := pb_st (by decide) (nt 1 f) p64
  have a5 := pb_st (by decide) (nt 2 f) p32
  have a4 := pb_st (by decide) (nt 3 f) p16
  have a3 := pb_st (by decide) (nt 4 f) p8
  have a2 := pb_st (by decide) (nt 5 f) p4
  have a1 := pb_st (by decide) (nt 6 f) p2
  have a0 := pb_st (by decide) (nt 7 f) p1
  have e0 : j / (2 * 128) * (2 * 128) = 0 := by omega
  rw [e0] at a7
  have h := ((((((a7.tr a6).tr a5).tr a4).tr a3).tr a2).tr a1).tr a0
  refine cg.tr h (cg.of ?_)
  have e1 : j / 1 * 1 = j := by omega
  rw [e1]
  show (0 : Int) + ly 1 (nt 7 f) (j + 0) * xr j ^ 0 = _
  rw [Int.pow_zero, Int.mul_one, Int.zero_add]
  rfl
def cM : Int := 41978 * 8265825 * 8265825
def mulS (a b : Nat → Int) (i : Nat) : Int := cM * iv 8 (fun j => nt 8 a j * nt 8 b j) i
/-- a polynomial that evaluates to the product at every root is the product -/
theorem mul_ev {a b z : Nat → Int} (h : ∀ x : Int, cg (x ^ 256) (-1) → cg (pb z x 0 256) (pb a x 0 256 * pb b x 0 256)) : ∀ i, i < 256 → cg (z i) (mulS a b i) := by
  intro i hi
  have h1 : ∀ j, j < 256 → cg (nt 8 z j) (nt 8 a j * nt 8 b j) := by
    intro j hj
    obtain ⟨-, -, -, -, -, -, -, -, p⟩ := xr_ok hj
    exact ((ev_nt hj z).sy.tr (h _ p)).tr ((ev_nt hj a).mul (ev_nt hj b))
  have h2 := (iv_cg h1 8 (by decide) i hi).sy.tr (iv_nt8 z i hi)
  have h3 : cg (cM * 256) 1 := cg.of_mod (by decide +kernel)
  unfold mulS
  refine cg.sy ((cg.ml cM h2).tr ((cg.of ?_).tr ((cg.mr (z i) h3).tr (cg.of ?_))))
  · rw [Int.mul_assoc]
  · rw [Int.one_mul]
/-- one step of the school's product -/
theorem pb_upd (z : Nat → Int) (x v : Int) {k : Nat} (hk : k < 256) : pb (fun i => if i = k then v else z i) x 0 256 = pb z x 0 256 - z k * x ^ k + v * x ^ k := by
  unfold pb
  have e : (fun i => (if 0 + i = k then v else z (0 + i)) * x ^ i) = (fun i => if i = k then v * x ^ k else z (0 + i) * x ^ i) := by
    funext i
    rw [Nat.zero_add]
    split
    · rename_i h; rw [h]
    · rfl
  rw [e, fb_si_upd _ _ hk, Nat.zero_add]
def ac (a b : Nat → Int) (x : Int) (i j : Nat) : Int := pb a x 0 i * pb b x 0 256 + a i * x ^ i * pb b x 0 j
theorem ac_s (a b : Nat → Int) (x : Int) (i j : Nat) : ac a b x i (j + 1) = ac a b x i j + a i * b j * x ^ (i + j) := by
  unfold ac
  have e : pb b x 0 (j + 1) = pb b x 0 j + b j * x ^ j := by
    unfold pb
    rw [fb_si_succ, Nat.zero_add]
  rw [e, Int.pow_add]
  grind
theorem ac_n (a b : Nat → Int) (x : Int) (i : Nat) : ac a b x i 256 = ac a b x (i + 1) 0 := by
  unfold ac
  have e : pb a x 0 (i + 1) = pb a x 0 i + a i * x ^ i := by
    unfold pb
    rw [fb_si_succ, Nat.zero_add]
  have e2 : pb b x 0 0 = 0 := rfl
  rw [e, e2]
  grind
theorem ac_0 (a b : Nat → Int) (x : Int) : ac a b x 0 0 = 0 := by
  unfold ac
  have e2 : pb b x 0 0 = 0 := rfl
  have e3 : pb a x 0 0 = 0 := rfl
  rw [e2, e3]
  grind
theorem ac_e (a b : Nat → Int) (x : Int) : ac a b x 256 0 = pb a x 0 256 * pb b x 0 256 := by
  unfold ac
  have e2 : pb b x 0 0 = 0 := rfl
  rw [e2]
  grind
theorem st_lo {a b z : Nat → Int} {x v : Int} {i j : Nat} (h : i + j < 256) (hz : cg (pb z x 0 256) (ac a b x i j)) (hv : cg v (z (i + j) + a i * b j)) : cg (pb (fun k => if k = i + j then v else z k) x 0 256) (ac a b x i (j + 1)) := by
  rw [pb_upd z x v h, ac_s]
  refine (((hz.sub (cg.rf _)).add (cg.mr _ hv))).tr (cg.of ?_)
  grind
theorem st_hi {a b z : Nat → Int} {x v : Int} {i j k : Nat} (hx : cg (x ^ 256) (-1)) (h : i + j = 256 + k) (hk : k < 256) (hz : cg (pb z x 0 256) (ac a b x i j)) (hv : cg v (z k - a i * b j)) : cg (pb (fun m => if m = k then v else z m) x 0 256) (ac a b x i (j + 1)) := by
  rw [pb_upd z x v hk, ac_s, h, Int.pow_add]
  refine (((hz.sub (cg.rf _)).add (cg.mr _ hv))).tr ?_
  have h2 : cg (ac a b x i j + a i * b j * (-1 * x ^ k)) (ac a b x i j + a i * b j * (x ^ 256 * x ^ k)) := (cg.rf _).add (cg.ml _ (cg.mr _ hx.sy))
  refine (cg.of ?_).tr h2
  grind
end
section
/-! rows for an array of int arrays (own): the four rows of a ring's file -/
def gR (cG cI : ClassId) (U : State) : Prop := ∃ kA kI : Class, U.vm.classes[cG]? = some kA ∧ kA.kind = .array cI (.array .int) ∧ U.vm.classes[cI]? = some kI
theorem gR.moved {cG cI : ClassId} {u U : State} (hvm : u.vm.Alike U.vm) (h : gR cG cI u) : gR cG cI U := by
  obtain ⟨kA, kI, h1, h2, h3⟩ := h
  obtain ⟨k', hk', he⟩ := hvm.2.2 _ _ h1
  obtain ⟨k2, hk2, -⟩ := hvm.2.2 _ _ h3
  exact ⟨k', k2, hk', by rw [he]; exact h2, hk2⟩
def gK (D : va_G) (cl : List vw_C) (cG cI : ClassId) (U : State) : Prop := va_K D cl [(cI, .int), (cG, .array .int)] U ∧ gR cG cI U
theorem gK.moved {D : va_G} {cl : List vw_C} {cG cI : ClassId} {u U : State} (hvm : u.vm.Alike U.vm) (h : gK D cl cG cI u) : gK D cl cG cI U := ⟨va_K.moved hvm h.1, h.2.moved hvm⟩
/-- the word that says: arrays of int arrays are known -/
def gAO (U : State) : Prop := (Cond.arrayOver (.array .int)).before #[] U = true
theorem gAO.of {A : Array Value} {U : State} (h : (Cond.arrayOver (.array .int)).before A U = true) : gAO U := h
theorem gAO.use {A : Array Value} {U : State} (h : gAO U) : (Cond.arrayOver (.array .int)).before A U = true := h
theorem gAO.moved {u U : State} (hvm : u.vm.Alike U.vm) (h : gAO u) : gAO U := by
  obtain ⟨comp, c, k, h1, h2, h3, h4, h5⟩ := arrayOverA_spec h
  obtain ⟨k', hk', he⟩ := hvm.2.2 _ _ h3
  have hi : (U.vm.classes.findIdx? fun (x : Class) => match x.kind with | .array component _ => component == comp | _ => false) = some c := by
    have e := va_idx_bare U.vm comp
    have e0 := va_idx_bare u.vm comp
    first | rw [hvm.bare_eq] at e | rw [← hvm.bare_eq] at e
    exact e.symm.trans (e0.trans h2)
  have hkind : k'.kind = .array comp (.array .int) := by rw [he]; exact h4
  have f1 : U.vm.findClass (FieldType.array .int).toString = some comp := by rw [hvm.findClass]; exact h1
  have f2 : U.vm.findClass ("[" ++ (FieldType.array .int).toString) = some c := by rw [hvm.findClass]; exact h5
  unfold gAO Cond.before Cond.holds
  simp only [Cond.value]
  rw [f1, Option.bind_some]
  refine (congrArg (fun o : Option Nat => (o.bind (fun c => (U.vm.classes[c]?).map fun (k : Class) => match k.kind with | .array _ ty => decide (ty = FieldType.array .int) && decide (U.vm.findClass ("[" ++ (FieldType.array .int).toString) = some c) | _ => false) == some true)) hi).trans ?_
  simp [hk', hkind, f2]
theorem gd_outer (c : ClassId) (h0 : Nat) : Jvm.Free.Multi.outerC c 4 h0 4 = arrV c 4 (fun j => va_rf (some (h0 + 1 + j))) := by
  have hs : (Jvm.Free.Multi.outerC c 4 h0 4).slots = (arrV c 4 (fun j => va_rf (some (h0 + 1 + j)))).slots := by
    apply Array.ext_getElem?
    intro j
    by_cases hj : j < 4
    · rw [arrV_read _ _ hj, Jvm.Free.Multi.outerC_slot c 4 h0 4 j hj, if_pos hj]
      rfl
    · rw [Array.getElem?_eq_none (by rw [(Jvm.Free.Multi.outerC_facts c 4 h0 4).2.2]; omega), Array.getElem?_eq_none (by rw [arrV_size]; omega)]
  have he : Jvm.Free.Multi.outerC c 4 h0 4 = { cls := c, slots := (Jvm.Free.Multi.outerC c 4 h0 4).slots, vm := .none } := rfl
  rw [he, hs]
  rfl
section GRD
variable {p : Program} {l : Launch} {e : Env} {R : Room} {s : State} {m : MethodId} {args : Array Value} {below : List Frame} {meth : Method} {c : Code} {H : Heap} {locs : List Loc} {cells slots : Nat} {Q : State → Prop}
variable {cc : ByteArray} {pc : Nat} {ls : Array Slot} {rest : List Value} {D : va_G} {cl : List vw_C} {A : Nat → Prop} {a : Nat} {tys : List (ClassId × FieldType)} {ws : va_W} {H0 : Heap}
theorem vg_ald (hexec : p.tables.exec = Jvm.exec) (hb : c.code = cc) (hK : va_K D cl tys s) (hP : va_P D cl ws H) (q0 t0 : Nat) {cA : ClassId} {n y : Nat} {f : Nat → Option Nat} (ha : ws[q0]? = some (a, .inl (cA, n, .inr (.inr (.inr (.inr f)))))) (ht : tys[t0]? = some (cA, .array .int)) {i : Int32} (hin : vp_in i n) (hf : f i.toNatClampNeg = some y) (hdg : decode cc pc = .ok (.aaload, 1))
    (kk : W p l e R s m args below meth c H locs cells slots Q (F0 m (pc + 1) ls (.ref y :: rest))) : W p l e R s m args below meth c H locs cells slots Q (F0 m pc ls (.int i :: .ref a :: rest)) := by
  have hlt : i.toNatClampNeg < n := Nat.not_le.mp fun q => hin (Or.inr q)
  exact W.aald (v := .ref y) (ty := .array .int) hexec hb (hP q0 _ ha) ((hK.2 t0 _ ht).1 n (fun j => va_rf (f j))) rfl (fun q => by cases q) (by show ¬ (i < 0 ∨ (arrV _ _ _).slots.size ≤ _); rw [arrV_size]; exact hin) (by show (arrV _ _ _).slots[_]? = _; rw [arrV_read _ _ hlt, hf]; rfl) rfl rfl hdg kk
theorem vg_ast (hexec : p.tables.exec = Jvm.exec) (hb : c.code = cc) {cG cI : ClassId} (hg : gR cG cI s) (hP : va_P D cl ws H) (hD : va_D A ws) (hS : va_S A H0 H locs) (q0 qk : Nat) {n k v : Nat} {f : Nat → Option Nat} {r : Nat → Int32} (ha : ws[q0]? = some (a, .inl (cG, n, .inr (.inr (.inr (.inr f)))))) (hv : ws[qk]? = some (v, .inl (cI, k, .inl r))) {i : Int32} (hin : vp_in i n) (hdg : decode cc pc = .ok (.aastore, 1))
    (kk : ∀ (H1 : Heap) (locs1 : List Loc), va_P D cl (ws.set q0 (a, .inl (cG, n, .inr (.inr (.inr (.inr (va_up f i.toNatClampNeg (some v)))))))) H1 → va_D A (ws.set q0 (a, .inl (cG, n, .inr (.inr (.inr (.inr (va_up f i.toNatClampNeg (some v)))))))) → va_S A H0 H1 locs1 → W p l e R s m args below meth c H1 locs1 cells slots Q (F0 m (pc + 1) ls rest)) : W p l e R s m args below meth c H locs cells slots Q (F0 m pc ls (.ref v :: .int i :: .ref a :: rest)) := by
  have hlt : i.toNatClampNeg < n := Nat.not_le.mp fun q => hin (Or.inr q)
  have h0 : ¬ i < 0 := fun q => hin (Or.inl q)
  have g1 : H[v]? = some (vp_cell cI (k, .inl r)) := hP qk _ hv
  obtain ⟨kA, kI, k1, k2, k3⟩ := hg
  refine W.aast (comp := cI) (t := .array .int) hexec hb (hP q0 _ ha) (fun q h => by cases h) (fun h => by cases h) k1 k2 rfl k3 ⟨h0, by show _ < (arrV _ _ _).slots.size; rw [arrV_size]; exact hlt⟩ g1 (fun q h => by cases h) k3 (va_asg _ _) rfl rfl hdg fun H1 e z oq => ?_
  refine kk H1 _ (hP.set hD ha ?_ oq) (hD.set ha) (hS.put z oq (hD.2 q0 _ ha))
  show H1[a]? = some (vp_cell _ _)
  rw [e]
  rw [vp_cell_q, vp_cell_q, arrV_store]
  congr 2
  funext q
  by_cases hq : q = i.toNatClampNeg
  · subst hq
    simp [updV, va_up, va_rf]
  · simp [updV, va_up, hq]
theorem vg_newa (hexec : p.tables.exec = Jvm.exec) (hb : c.code = cc) (harr : (Cond.arrayClass .int).before args s = true) {cI : ClassId} (t0 : Nat) (ht : tys[t0]? = some (cI, .int)) (hK : va_K D cl tys s) (hP : va_P D cl ws H) (hD : va_D A ws) (hS : va_S A H0 H locs) (hA : ∀ q, H0.size ≤ q → A q)
    (hcells : cells + 1 ≤ R.cells) (hslots : slots + 256 ≤ R.slots) (hdg : decode cc pc = .ok (.newarray .int, 2))
    (kk : ∀ (q : Nat) (H1 : Heap), va_P D cl (ws ++ [(q, .inl (cI, 256, .inl (fun _ => 0)))]) H1 → va_D A (ws ++ [(q, .inl (cI, 256, .inl (fun _ => 0)))]) → va_S A H0 H1 locs →
      W p l e R s m args below meth c H1 locs (cells + 1) (slots + 256) Q (F0 m (pc + 2) ls (.ref q :: rest))) : W p l e R s m args below meth c H locs cells slots Q (F0 m pc ls (.int 256 :: rest)) := by
  refine va_newa (atype := .int) (ty := .int) (a0 := (256, .inl (fun _ => 0))) hexec hb harr rfl hK hP hD hS hA (fun _ => rfl) (by decide) (by decide) (by decide) hcells hslots hdg (fun q cA H1 hK1 hP1 hD1 hS1 => ?_)
  have h1 : va_RA s cI .int := (hK.2 t0 _ ht).2
  have h2 : va_RA s cA .int := (hK1.2 tys.length (cA, .int) (by rw [List.getElem?_append_right (Nat.le_refl _), Nat.sub_self]; rfl)).2
  have e1 : cA = cI := Option.some.inj (h2.symm.trans h1)
  subst e1
  exact kk q H1 hP1 hD1 hS1
theorem vg_multi (hexec : p.tables.exec = Jvm.exec) (hb : c.code = cc) {own : String} {index : Nat} (hown : s.vm.findClass own = some m.cls) (hclink : (Cond.classLink own index "[[I").before args s = true) (hover : gAO s) (harr : (Cond.arrayClass .int).before args s = true) {cG cI : ClassId} (hK : gK D cl cG cI s) (hP : va_P D cl ws H) (hD : va_D A ws) (hS : va_S A H0 H locs) (hA : ∀ q, H0.size ≤ q → A q)
    (hcells : cells + 5 ≤ R.cells) (hslots : slots + 1028 ≤ R.slots) (hdg : decode cc pc = .ok (.multianewarray index 2, 4))
    (kk : ∀ (g : Nat) (ad : Nat → Nat) (H1 : Heap), va_P D cl (ws ++ [(g, .inl (cG, 4, .inr (.inr (.inr (.inr (fun i => some (ad i))))))), (ad 0, .inl (cI, 256, .inl (fun _ => 0))), (ad 1, .inl (cI, 256, .inl (fun _ => 0))), (ad 2, .inl (cI, 256, .inl (fun _ => 0))), (ad 3, .inl (cI, 256, .inl (fun _ => 0)))]) H1 → va_D A (ws ++ [(g, .inl (cG, 4, .inr (.inr (.inr (.inr (fun i => some (ad i))))))), (ad 0, .inl (cI, 256, .inl (fun _ => 0))), (ad 1, .inl (cI, 256, .inl (fun _ => 0))), (ad 2, .inl (cI, 256, .inl (fun _ => 0))), (ad 3, .inl (cI, 256, .inl (fun _ => 0)))]) → va_S A H0 H1 locs →
      W p l e R s m args below meth c H1 locs (cells + 5) (slots + 1028) Q (F0 m (pc + 4) ls (.ref g :: rest))) : W p l e R s m args below meth c H locs cells slots Q (F0 m pc ls (.int 256 :: .int 4 :: rest)) := by
  have n4 : (4 : Int32).toNatClampNeg = 4 := by decide
  have n256 : (256 : Int32).toNatClampNeg = 256 := by decide
  intro T hT X
  obtain ⟨vm₁, cA, comp, hW, hfA, hfC, -, -, X1, st⟩ := X.multianewarray2F hexec (own := own) (index := index) (ty := .int) hown hclink (gAO.use hover) harr (g := F0 m pc ls (.int 256 :: .int 4 :: rest)) rfl (by rw [hb]; exact hdg) (n := 4) (k := 256) (rest := rest) rfl (by decide) (by decide) (by decide) (by decide) (by decide) rfl rfl (by rw [n4]; omega) (by rw [n4, n256]; omega)
  rw [n4, n256] at X1 st
  have eG : cA = cG := Option.some.inj (hfA.symm.trans ((hK.1.2 1 _ rfl).2))
  have eI : comp = cI := Option.some.inj (hfC.symm.trans ((hK.1.2 0 _ rfl).2))
  subst eG
  subst eI
  obtain ⟨f1, f2, f3, f4⟩ := Jvm.Free.Multi.fill_facts (T.setVm vm₁) cA comp 4 256 (defaultValue .int) 4
  have hin := Jvm.Free.Multi.fill_inner (T.setVm vm₁) cA comp 4 256 (defaultValue .int) 4
  have hold : ∀ x : Nat, x < H.size → (Jvm.Free.Multi.fill (T.setVm vm₁) cA comp 4 256 (defaultValue .int) 4).heap[x]? = H[x]? := by
    intro x hx
    rw [Jvm.Free.Multi.fill_old (T.setVm vm₁) cA comp 4 256 (defaultValue .int) (show x < (T.setVm vm₁).heap.size by show x < T.heap.size; rw [hT]; exact hx) 4]
    show T.heap[x]? = _
    rw [hT]
  have hz : (T.setVm vm₁).heap.size = H.size := by show T.heap.size = _; rw [hT]
  rw [hz] at f1 f2 hin
  rw [gd_outer] at f2
  have hrow : ∀ j, j < 4 → (Jvm.Free.Multi.fill (T.setVm vm₁) cA comp 4 256 (defaultValue .int) 4).heap[H.size + 1 + j]? = some (vp_cell comp (256, .inl (fun _ => 0))) := by
    intro j hj
    rw [hin j hj, vp_cell_i, ← arrV_new]
    rfl
  have hzT : T.heap.size = H.size := by rw [hT]
  rw [hzT] at st
  generalize Jvm.Free.Multi.fill (T.setVm vm₁) cA comp 4 256 (defaultValue .int) 4 = T1 at X1 st f1 f2 hold hrow
  refine Exists.elim (kk H.size (fun i => H.size + 1 + i) T1.heap ?_ ?_ ?_ T1 rfl (stand_widen X1 (by omega) (by omega))) (fun t h => ⟨t, st t h.1, h.2⟩)
  · refine va_P.app (hP.kept (fun k q hk => hold q.1 (hP k q hk).lt)) ?_
    intro k q hk
    match k, hk with
    | 0, hk => cases hk; exact f2
    | 1, hk => cases hk; exact hrow 0 (by decide)
    | 2, hk => cases hk; exact hrow 1 (by decide)
    | 3, hk => cases hk; exact hrow 2 (by decide)
    | 4, hk => cases hk; exact hrow 3 (by decide)
    | k + 5, hk => simp at hk
  · have hlt : ∀ (k : Nat) (q : Nat × va_E), ws[k]? = some q → q.1 < H.size := fun k q hk => (hP k q hk).lt
    have hnew : ∀ (k : Nat) (q : Nat × va_E), ([(H.size, .inl (cA, 4, .inr (.inr (.inr (.inr (fun i => some (H.size + 1 + i))))))), (H.size + 1 + 0, .inl (comp, 256, .inl (fun _ => 0))), (H.size + 1 + 1, .inl (comp, 256, .inl (fun _ => 0))), (H.size + 1 + 2, .inl (comp, 256, .inl (fun _ => 0))), (H.size + 1 + 3, .inl (comp, 256, .inl (fun _ => 0)))] : va_W)[k]? = some q → q.1 = H.size + k := by
      intro k q hk
      match k, hk with
      | 0, hk => cases hk; rfl
      | 1, hk => cases hk; rfl
      | 2, hk => cases hk; rfl
      | 3, hk => cases hk; rfl
      | 4, hk => cases hk; rfl
      | k + 5, hk => simp at hk
    refine va_D.app hD ⟨fun i j x y hi hj hxy => ?_, fun k q hk => ?_⟩ (fun i j x y hx hy hxy => ?_)
    · have h1 := hnew i x hi
      have h2 := hnew j y hj
      omega
    · have h1 := hnew k q hk
      exact hA _ (by rw [h1]; exact Nat.le_trans hS.1 (Nat.le_add_right _ _))
    · have h1 := hlt i x hx
      have h2 := hnew j y hy
      omega
  · exact ⟨Nat.le_trans hS.1 (by rw [f1]; omega), fun x h1 h2 => (hold x (Nat.lt_of_lt_of_le h1 hS.1)).trans (hS.2.1 x h1 h2), hS.2.2⟩
end GRD
end
section
/-! rows with places as naturals (own) -/
section NRW
variable {p : Program} {l : Launch} {e : Env} {R : Room} {s : State} {m : MethodId} {args : Array Value} {below : List Frame} {meth : Method} {c : Code} {H : Heap} {locs : List Loc} {cells slots : Nat} {Q : State → Prop}
variable {cc : ByteArray} {pc : Nat} {ls : Array Slot} {rest : List Value} {D : va_G} {cl : List vw_C} {A : Nat → Prop} {a : Nat} {tys : List (ClassId × FieldType)} {ws : va_W} {H0 : Heap}
theorem vn_iadd (hexec : p.tables.exec = Jvm.exec) (hb : c.code = cc) {x y : Nat} (hdg : decode cc pc = .ok (.iadd, 1)) (k : W p l e R s m args below meth c H locs cells slots Q (F0 m (pc + 1) ls (.int (nI (x + y)) :: rest))) : W p l e R s m args below meth c H locs cells slots Q (F0 m pc ls (.int (nI y) :: .int (nI x) :: rest)) := by
  refine lv_iadd hexec hb hdg ?_
  rw [nI_add]
  exact k
theorem vn_iald (hexec : p.tables.exec = Jvm.exec) (hb : c.code = cc) (hK : va_K D cl tys s) (hP : va_P D cl ws H) (q0 t0 : Nat) {cA : ClassId} {n j : Nat} {f : Nat → Int32} (ha : ws[q0]? = some (a, .inl (cA, n, .inl f))) (ht : tys[t0]? = some (cA, .int)) (hj : j < n) (hn : n < 2 ^ 31) (hdg : decode cc pc = .ok (.iaload, 1))
    (kk : W p l e R s m args below meth c H locs cells slots Q (F0 m (pc + 1) ls (.int (f j) :: rest))) : W p l e R s m args below meth c H locs cells slots Q (F0 m pc ls (.int (nI j) :: .ref a :: rest)) := by
  refine va_iald hexec hb hK hP q0 t0 ha ht (vp_in_nI hj hn) hdg ?_
  rw [nI_clamp (by omega)]
  exact kk
theorem vn_iast (hexec : p.tables.exec = Jvm.exec) (hb : c.code = cc) (hK : va_K D cl tys s) (hP : va_P D cl ws H) (hD : va_D A ws) (hS : va_S A H0 H locs) (q0 t0 : Nat) {cA : ClassId} {n j : Nat} {f : Nat → Int32} (ha : ws[q0]? = some (a, .inl (cA, n, .inl f))) (ht : tys[t0]? = some (cA, .int)) {x : Int32} (hj : j < n) (hn : n < 2 ^ 31) (hdg : decode cc pc = .ok (.iastore, 1))
    (kk : ∀ (H1 : Heap) (locs1 : List Loc), va_P D cl (ws.set q0 (a, .inl (cA, n, .inl (upd f j x)))) H1 → va_D A (ws.set q0 (a, .inl (cA, n, .inl (upd f j x)))) → va_S A H0 H1 locs1 → W p l e R s m args below meth c H1 locs1 cells slots Q (F0 m (pc + 1) ls rest)) : W p l e R s m args below meth c H locs cells slots Q (F0 m pc ls (.int x :: .int (nI j) :: .ref a :: rest)) := by
  refine va_iast hexec hb hK hP hD hS q0 t0 ha ht (vp_in_nI hj hn) hdg ?_
  rw [nI_clamp (by omega)]
  exact kk
theorem vn_ge (hexec : p.tables.exec = Jvm.exec) (hb : c.code = cc) {x y : Nat} {off : Int} {tgt : Nat} (hx : x < 2 ^ 31) (hy : y < 2 ^ 31) (hdg : decode cc pc = .ok (.if_icmp .ge off, 3)) (ht : (pc : Int) + off = (tgt : Int))
    (kt : y ≤ x → W p l e R s m args below meth c H locs cells slots Q (F0 m tgt ls rest)) (kf : x < y → W p l e R s m args below meth c H locs cells slots Q (F0 m (pc + 3) ls rest)) : W p l e R s m args below meth c H locs cells slots Q (F0 m pc ls (.int (nI y) :: .int (nI x) :: rest)) :=
  lv_icmp_ge hexec hb hdg ht (fun h => kt ((nI_leI hy hx).mp h)) (fun h => kf (Nat.not_le.mp fun q => h ((nI_leI hy hx).mpr q)))
theorem vn_ti (hexec : p.tables.exec = Jvm.exec) (hb : c.code = cc) {t N j : Nat} {f : Nat → Value} (hT : va_T .int t N f A s s.heap) (hS : va_S A s.heap H locs) (hj : j < N) (hn : N < 2 ^ 31) (hdg : decode cc pc = .ok (.iaload, 1))
    (kk : W p l e R s m args below meth c H locs cells slots Q (F0 m (pc + 1) ls (f j :: rest))) : W p l e R s m args below meth c H locs cells slots Q (F0 m pc ls (.int (nI j) :: .ref t :: rest)) :=
  va_ti hexec hb hT hS (vp_in_nI hj hn) (by rw [nI_clamp (by omega)]) hdg kk
end NRW
abbrev vwCl : List vw_C := [(RX0, TX0, 1), (RX1, TX1, 1)]
/-- the table of zetas, as the static holds it -/
def ztJ (k : Nat) : Int32 := Int32.ofInt (zI k)
theorem ztJ_i {k : Nat} (h : k < 256) : (ztJ k).toInt = zI k := by
  have b := zI_b h
  unfold ztJ
  rw [Int32.toInt_ofInt]
  exact ar_b32 (by omega) (by omega)
def gZ (t : Nat) (A : Nat → Prop) (U : State) (H : Heap) : Prop := va_Z "Ntt" "nttZetas" "[I" (.ref t) A U H ∧ va_T .int t 256 (fun j => .int (ztJ j)) A U H
theorem gZ.moved {t : Nat} {A : Nat → Prop} {u U : State} {H : Heap} (hvm : u.vm.Alike U.vm) (h : gZ t A u H) : gZ t A U H := ⟨h.1.moved hvm, h.2.moved hvm⟩
theorem gZ.kept {t : Nat} {A : Nat → Prop} {U : State} {H H1 : Heap} (h : gZ t A U H) (hq : ∀ a : Nat, a < H.size → ¬ A a → H1[a]? = H[a]?) : gZ t A U H1 := ⟨h.1.kept hq, h.2.kept hq⟩
theorem gZ.narrow {t : Nat} {A B : Nat → Prop} {U : State} {H : Heap} (h : gZ t A U H) (hAB : ∀ q, B q → A q) : gZ t B U H := ⟨h.1.narrow hAB, h.2.narrow hAB⟩
/-- which places of a level are done at (start, j) -/
def pr (n st j i : Nat) : Prop := i < st ∨ (st ≤ i ∧ i < j) ∨ (st + n ≤ i ∧ i < j + n)
def tI (f : Nat → Int32) : Nat → Int := fun k => (f k).toInt
/-- a level in progress: done places hold L, up to q-multiples and below C; the others are as they were -/
def nInv (L : (Nat → Int) → Nat → Int) (n st j : Nat) (f g : Nat → Int32) (C : Int) : Prop := ∀ i, i < 256 → (pr n st j i → cg (g i).toInt (L (tI f) i) ∧ -C ≤ (g i).toInt ∧ (g i).toInt ≤ C) ∧ (¬ pr n st j i → g i = f i)
theorem nInv_0 (L : (Nat → Int) → Nat → Int) (n : Nat) (f : Nat → Int32) (C : Int) : nInv L n 0 0 f f C := fun i _ => ⟨fun h => by unfold pr at h; omega, fun _ => rfl⟩
theorem nInv_next {L : (Nat → Int) → Nat → Int} {n st : Nat} {f g : Nat → Int32} {C : Int} (h : nInv L n st (st + n) f g C) : nInv L n (st + n + n) (st + n + n) f g C := fun i hi => ⟨fun q => (h i hi).1 (by unfold pr at q ⊢; omega), fun q => (h i hi).2 (fun z => q (by unfold pr at z ⊢; omega))⟩
theorem nInv_end {L : (Nat → Int) → Nat → Int} {n j : Nat} {f g : Nat → Int32} {C : Int} (h : nInv L n 256 j f g C) : ∀ i, i < 256 → cg (g i).toInt (L (tI f) i) ∧ -C ≤ (g i).toInt ∧ (g i).toInt ≤ C := fun i hi => (h i hi).1 (Or.inl hi)
theorem nInv_step {L : (Nat → Int) → Nat → Int} {n st j : Nat} {f g g' : Nat → Int32} {C : Int} (hn : 0 < n) (h : nInv L n st j f g C) (h1 : st ≤ j) (h2 : j < st + n) (e : ∀ i, i ≠ j → i ≠ j + n → g' i = g i) (a : cg (g' j).toInt (L (tI f) j) ∧ -C ≤ (g' j).toInt ∧ (g' j).toInt ≤ C) (b : cg (g' (j + n)).toInt (L (tI f) (j + n)) ∧ -C ≤ (g' (j + n)).toInt ∧ (g' (j + n)).toInt ≤ C) : nInv L n st (j + 1) f g' C := by
  intro i hi
  by_cases q1 : i = j
  · subst q1
    exact ⟨fun _ => a, fun q => absurd (Or.inr (Or.inl ⟨h1, Nat.lt_succ_self _⟩)) q⟩
  · by_cases q2 : i = j + n
    · subst q2
      exact ⟨fun _ => b, fun q => absurd (Or.inr (Or.inr ⟨by omega, by omega⟩)) q⟩
    · rw [e i q1 q2]
      exact ⟨fun q => (h i hi).1 (by unfold pr at q ⊢; omega), fun q => (h i hi).2 (fun z => q (by unfold pr at z ⊢; omega))⟩
theorem nInv_j {L : (Nat → Int) → Nat → Int} {n st j : Nat} {f g : Nat → Int32} {C : Int} (h : nInv L n st j f g C) (h1 : st ≤ j) (h2 : j < st + n) (h3 : st + n + n ≤ 256) : g j = f j ∧ g (j + n) = f (j + n) :=
  ⟨(h j (by omega)).2 (by unfold pr; omega), (h (j + n) (by omega)).2 (by unfold pr; omega)⟩
/-- one butterfly of ntt -/
theorem bf_n {n b j : Nat} {f g g' : Nat → Int32} {B : Int} {t : Int32} (h : nInv (ly n) n (2 * n * b) j f g (B + 8380417)) (h1 : 2 * n * b ≤ j) (h2 : j < 2 * n * b + n) (h3 : 2 * n * b + n + n ≤ 256) (hB : B ≤ 2000000000) (hf : ∀ i, i < 256 → -B ≤ (f i).toInt ∧ (f i).toInt ≤ B)
    (ht : cg t.toInt (zI (128 / n + b) * (f (j + n)).toInt * 8265825)) (t1 : -8380417 ≤ t.toInt) (t2 : t.toInt ≤ 8380417) (e : g' = upd (upd g (j + n) (g j - t)) j (upd g (j + n) (g j - t) j + t)) : nInv (ly n) n (2 * n * b) (j + 1) f g' (B + 8380417) := by
  have hn : 0 < n := by omega
  obtain ⟨ej, ek⟩ := nInv_j h h1 h2 h3
  have b1 := hf j (by omega)
  have hw : cg t.toInt (wI (128 / n + b) * (f (j + n)).toInt) := ht.tr (cg.of (by unfold wI; grind))
  have ne : j ≠ j + n := by omega
  have es : (f j - t).toInt = (f j).toInt - t.toInt := ar_sub (by omega) (by omega)
  have ea : (f j + t).toInt = (f j).toInt + t.toInt := ar_add (by omega) (by omega)
  have g1 : g' j = f j + t := by rw [e, pk_us, pk_un ne, ej]
  have g2 : g' (j + n) = f j - t := by rw [e, pk_un (Ne.symm ne), pk_us, ej]
  obtain ⟨i, rfl⟩ : ∃ i, j = 2 * n * b + i := ⟨j - 2 * n * b, by omega⟩
  have l1 := ly_at (n := n) (b := b) (i := i) (by omega) (tI f)
  have l2 := ly_at2 (n := n) (b := b) (i := i) (by omega) (tI f)
  rw [show 2 * n * b + n + i = 2 * n * b + i + n by omega] at l2
  refine nInv_step hn h h1 h2 (fun i q1 q2 => by rw [e, pk_un q1, pk_un q2]) ⟨?_, ?_, ?_⟩ ⟨?_, ?_, ?_⟩
  · rw [g1, ea, l1]; exact (cg.rf _).add hw
  · rw [g1, ea]; omega
  · rw [g1, ea]; omega
  · rw [g2, es, l2]; exact (cg.rf _).sub hw
  · rw [g2, es]; omega
  · rw [g2, es]; omega
theorem il_at {n b i : Nat} (hi : i < n) (f : Nat → Int) : il n f (2 * n * b + i) = f (2 * n * b + i) + f (2 * n * b + i + n) := by
  unfold il
  have h1 : (2 * n * b + i) % (2 * n) = i := by rw [Nat.mul_add_mod]; exact Nat.mod_eq_of_lt (by omega)
  rw [h1, if_pos hi]
theorem il_at2 {n b i : Nat} (hi : i < n) (f : Nat → Int) : il n f (2 * n * b + i + n) = -wI (256 / n - 1 - b) * (f (2 * n * b + i) - f (2 * n * b + i + n)) := by
  unfold il
  have h1 : (2 * n * b + i + n) % (2 * n) = i + n := by rw [Nat.add_assoc, Nat.mul_add_mod]; exact Nat.mod_eq_of_lt (by omega)
  have h2 : (2 * n * b + i + n) / (2 * n) = b := by
    rw [Nat.add_assoc, Nat.mul_add_div (by omega), Nat.div_eq_of_lt (by omega)]
    rfl
  have h3 : 2 * n * b + i + n - n = 2 * n * b + i := by omega
  rw [h1, h2, if_neg (by omega), h3]
/-- one butterfly of invNttToMont -/
theorem bf_i {n b j : Nat} {f g g' : Nat → Int32} {B : Int} {t : Int32} (h : nInv (il n) n (2 * n * b) j f g (2 * B)) (h1 : 2 * n * b ≤ j) (h2 : j < 2 * n * b + n) (h3 : 2 * n * b + n + n ≤ 256) (hB0 : 8380417 ≤ B) (hB : B ≤ 1073741823) (hf : ∀ i, i < 256 → -B ≤ (f i).toInt ∧ (f i).toInt ≤ B)
    (ht : cg t.toInt (-zI (256 / n - 1 - b) * ((f j).toInt - (f (j + n)).toInt) * 8265825)) (t1 : -8380417 ≤ t.toInt) (t2 : t.toInt ≤ 8380417) (e1 : g' j = g j + g (j + n)) (e2 : g' (j + n) = t) (e : ∀ i, i ≠ j → i ≠ j + n → g' i = g i) : nInv (il n) n (2 * n * b) (j + 1) f g' (2 * B) := by
  have hn : 0 < n := by omega
  obtain ⟨ej, ek⟩ := nInv_j h h1 h2 h3
  have b1 := hf j (by omega)
  have b2 := hf (j + n) (by omega)
  have ea : (f j + f (j + n)).toInt = (f j).toInt + (f (j + n)).toInt := ar_add (by omega) (by omega)
  rw [ej, ek] at e1
  obtain ⟨i, rfl⟩ : ∃ i, j = 2 * n * b + i := ⟨j - 2 * n * b, by omega⟩
  have l1 := il_at (n := n) (b := b) (i := i) (by omega) (tI f)
  have l2 := il_at2 (n := n) (b := b) (i := i) (by omega) (tI f)
  refine nInv_step hn h h1 h2 e ⟨?_, ?_, ?_⟩ ⟨?_, ?_, ?_⟩
  · rw [e1, ea, l1]; exact cg.rf _
  · rw [e1, ea]; omega
  · rw [e1, ea]; omega
  · rw [e2, l2]; exact ht.tr (cg.of (by unfold wI tI; grind))
  · rw [e2]; omega
  · rw [e2]; omega
/-- numbers of a level -/
theorem LV.nb {n : Nat} (h : LV n) : 2 * n * (128 / n) = 256 ∧ 0 < n ∧ n ≤ 128 ∧ 0 < 128 / n ∧ 256 / n = 128 / n + 128 / n := by
  rcases h with h | h | h | h | h | h | h | h <;> subst h <;> decide
theorem LV.bb {n b : Nat} (h : LV n) (hb : b < 128 / n) : 2 * n * b + n + n ≤ 256 ∧ 2 * n * (b + 1) = 2 * n * b + n + n ∧ 128 / n + b < 256 ∧ 256 / n - 1 - b < 256 ∧ 2 * n * b < 256 := by
  rcases h with h | h | h | h | h | h | h | h <;> subst h <;> omega
end
section
/-! Ntt.ntt and Ntt.invNttToMont: loops and contracts (printed by gen/g15.py) -/
abbrev aW (h0 : Nat) (cI : ClassId) (f : Nat → Int32) : va_W := [(h0, .inl (cI, 256, .inl f))]
/-- a product of a zeta and a place, through montgomeryReduce -/
theorem mz {z x r : Int32} {Z : Int} (hz : z.toInt = Z) (z1 : -4190208 ≤ Z) (z2 : Z ≤ 4190208) (hr : r = montJ (z.toInt64 * x.toInt64)) : cg r.toInt (Z * x.toInt * 8265825) ∧ -8380417 ≤ r.toInt ∧ r.toInt ≤ 8380417 := by
  have b1 := ar_lo x
  have b2 := ar_hi x
  have hp := ar_prod (x := Z) (y := x.toInt) (A := 4190208) (B := 2147483648) (by omega) (by omega) (by omega) (by omega)
  have e : (z.toInt64 * x.toInt64).toInt = Z * x.toInt := by
    rw [ar_mul64 (by rw [Int32.toInt_toInt64, Int32.toInt_toInt64, hz]; omega) (by rw [Int32.toInt_toInt64, Int32.toInt_toInt64, hz]; omega), Int32.toInt_toInt64, Int32.toInt_toInt64, hz]
  have h := mont_spec (z.toInt64 * x.toInt64) (by rw [e]; omega) (by rw [e]; omega)
  rw [e] at h
  rw [hr]
  exact h
section NTT
variable {p : Program} {l : Launch} {e : Env} {R : Room} {s : State} {m : MethodId} {args : Array Value} {below : List Frame} {meth : Method} {c : Code} {Q : State → Prop} {dC : Nat → ClassId} {dI : Nat → Nat → Nat} {A : Nat → Prop} {h0 t : Nat} {cI : ClassId}
set_option maxHeartbeats 4000000 in
set_option maxRecDepth 100000 in
theorem ntt_in (F : CallFix p m c cX2_ntt 7 s args lw_all RX2) (hK : va_K (dC, dI) vwCl [(cI, .int)] s) (hR : 1 ≤ R.frames ∧ 22 ≤ R.locals) {n b : Nat} (hl0 : LV n) (hbn : b < 128 / n) {f : Nat → Int32} {B : Int} (hB : B ≤ 2000000000) (hf : ∀ i, i < 256 → -B ≤ (f i).toInt ∧ (f i).toInt ≤ B) (x4 zv : Int32) (hz : zv.toInt = zI (128 / n + b))
    (kk : ∀ (g : Nat → Int32) (H : Heap) (locs : List Loc) (ls : Array Slot), nInv (ly n) n (2 * n * b) (2 * n * b + n) f g (B + 8380417) → va_P (dC, dI) vwCl (aW h0 cI g) H → va_D A (aW h0 cI g) → va_S A s.heap H locs → lv_has ls 7 [(0, .ref h0), (1, .int (nI n)), (2, .int (nI (2 * n * b))), (3, .int (nI (2 * n * b + n))), (4, .int x4)] → W p l e R s m args below meth c H locs 0 0 Q (F0 m 81 ls [])) :
    ∀ (d j : Nat) (g : Nat → Int32) (H : Heap) (locs : List Loc) (ls : Array Slot), j + d = 2 * n * b + n → 2 * n * b ≤ j → nInv (ly n) n (2 * n * b) j f g (B + 8380417) → va_P (dC, dI) vwCl (aW h0 cI g) H → va_D A (aW h0 cI g) → va_S A s.heap H locs → lv_has ls 7 [(0, .ref h0), (1, .int (nI n)), (2, .int (nI (2 * n * b))), (3, .int (nI j)), (4, .int x4), (5, .int zv)] → W p l e R s m args below meth c H locs 0 0 Q (F0 m 33 ls []) := by
  obtain ⟨hx, hb, hml, hown, hts⟩ := id F
  obtain ⟨n1, n2, n3, n4, -⟩ := hl0.nb
  obtain ⟨c1, c2, c3, c4, c5⟩ := hl0.bb hbn
  obtain ⟨z1, z2⟩ := zI_b c3
  intro d
  induction d with
  | zero =>
    intro j g H locs ls hj h1 hI hP hD hS hl
    have ej : j = 2 * n * b + n := by omega
    subst ej
    refine lv_iload_n hx hb dX2_ntt_33 rfl (lv_at hl 3 rfl) ?_
    refine lv_iload_n hx hb dX2_ntt_34 rfl (lv_at hl 2 rfl) ?_
    refine lv_iload_n hx hb dX2_ntt_35 rfl (lv_at hl 1 rfl) ?_
    refine vn_iadd hx hb dX2_ntt_36 ?_
    refine vn_ge (tgt := 81) hx hb (by omega) (by omega) dX2_ntt_37 (by decide) (fun c_37 => ?_) (fun c_37 => absurd c_37 (by omega))
    exact kk g H locs ls hI hP hD hS (lv_sub hl [0, 1, 2, 3, 4] rfl)
  | succ d ih =>
    intro j g H locs ls hj h1 hI hP hD hS hl
    refine lv_iload_n hx hb dX2_ntt_33 rfl (lv_at hl 3 rfl) ?_
    refine lv_iload_n hx hb dX2_ntt_34 rfl (lv_at hl 2 rfl) ?_
    refine lv_iload_n hx hb dX2_ntt_35 rfl (lv_at hl 1 rfl) ?_
    refine vn_iadd hx hb dX2_ntt_36 ?_
    refine vn_ge (tgt := 81) hx hb (by omega) (by omega) dX2_ntt_37 (by decide) (fun c_37 => absurd c_37 (by omega)) (fun c_37 => ?_)
    obtain ⟨ej, ek⟩ := nInv_j hI h1 c_37 c1
    refine lv_iload hx hb dX2_ntt_40 (lv_at hl 5 rfl) ?_
    refine lv_i2l hx hb dX2_ntt_42 rfl ?_
    refine lv_aload_n hx hb dX2_ntt_43 rfl (lv_at hl 0 rfl) ?_
    refine lv_iload_n hx hb dX2_ntt_44 rfl (lv_at hl 3 rfl) ?_
    refine lv_iload_n hx hb dX2_ntt_45 rfl (lv_at hl 1 rfl) ?_
    refine vn_iadd hx hb dX2_ntt_46 ?_
    refine vn_iald hx hb hK hP 0 0 rfl rfl (by omega) (by decide) dX2_ntt_47 ?_
    refine lv_i2l hx hb dX2_ntt_48 rfl ?_
    refine lv_lmul hx hb dX2_ntt_49 ?_
    refine lv_topl (fun y_50 ey_50 => ?_)
    refine vp_callSi (va_Run.run (va_runS (As := [.long y_50]) (rest := []) ⟨hx, hb, hml, hown, hts⟩ (metX3_montgomeryReduce l y_50) (va_cwS 1 hts (lw_S q47 q48 q5 q49) rfl rfl rfl (by decide +kernel) hR) ⟨fun _ _ _ _ q => q, fun U hU hW => ⟨rfl, trivial⟩⟩ rfl rfl hl.1 rfl (lv_room (Nat.le_of_ble_eq_true rfl)) dX2_ntt_50 ⟨Nat.zero_le _, Nat.zero_le _⟩)) (fun r_50 hr_50 => ?_)
    rw [ey_50, ek] at hr_50
    obtain ⟨t0, t1, t2⟩ := mz hz z1 z2 hr_50
    refine lv_istore (lv' := [(6, .int r_50), (0, .ref h0), (1, .int (nI n)), (2, .int (nI (2 * n * b))), (3, .int (nI j)), (4, .int x4), (5, .int zv)]) hx hb dX2_ntt_53 hl (by decide) rfl (fun ls hl => ?_)
    refine lv_aload_n hx hb dX2_ntt_55 rfl (lv_at hl 1 rfl) ?_
    refine lv_iload_n hx hb dX2_ntt_56 rfl (lv_at hl 4 rfl) ?_
    refine lv_iload_n hx hb dX2_ntt_57 rfl (lv_at hl 2 rfl) ?_
    refine vn_iadd hx hb dX2_ntt_58 ?_
    refine lv_aload_n hx hb dX2_ntt_59 rfl (lv_at hl 1 rfl) ?_
    refine lv_iload_n hx hb dX2_ntt_60 rfl (lv_at hl 4 rfl) ?_
    refine vn_iald hx hb hK hP 0 0 rfl rfl (by omega) (by decide) dX2_ntt_61 ?_
    refine lv_iload hx hb dX2_ntt_62 (lv_at hl 0 rfl) ?_
    refine lv_isub hx hb dX2_ntt_64 ?_
    refine vn_iast hx hb hK hP hD hS 0 0 rfl rfl (by omega) (by decide) dX2_ntt_65 (fun H locs hP hD hS => ?_)
    have hP : va_P (dC, dI) vwCl (aW h0 cI (upd g (j + n) (g j - r_50))) H := hP
    have hD : va_D A (aW h0 cI (upd g (j + n) (g j - r_50))) := hD
    refine lv_aload_n hx hb dX2_ntt_66 rfl (lv_at hl 1 rfl) ?_
    refine lv_iload_n hx hb dX2_ntt_67 rfl (lv_at hl 4 rfl) ?_
    refine lv_aload_n hx hb dX2_ntt_68 rfl (lv_at hl 1 rfl) ?_
    refine lv_iload_n hx hb dX2_ntt_69 rfl (lv_at hl 4 rfl) ?_
    refine vn_iald hx hb hK hP 0 0 rfl rfl (by omega) (by decide) dX2_ntt_70 ?_
    refine lv_iload hx hb dX2_ntt_71 (lv_at hl 0 rfl) ?_
    refine lv_iadd hx hb dX2_ntt_73 ?_
    refine vn_iast hx hb hK hP hD hS 0 0 rfl rfl (by omega) (by decide) dX2_ntt_74 (fun H locs hP hD hS => ?_)
    refine lv_iinc (v := nI (j + 1)) (lv' := [(3, .int (nI (j + 1))), (6, .int r_50), (0, .ref h0), (1, .int (nI n)), (2, .int (nI (2 * n * b))), (4, .int x4), (5, .int zv)]) hx hb dX2_ntt_75 hl (k := 4) rfl (nI_1 j) (by decide) rfl (fun ls hl => ?_)
    refine lv_goto (tgt := 33) hx hb dX2_ntt_78 (by decide) ?_
    refine ih (j + 1) (upd (upd g (j + n) (g j - r_50)) j (upd g (j + n) (g j - r_50) j + r_50)) H locs ls (by omega) (by omega) ?_ hP hD hS (lv_sub hl [2, 3, 4, 0, 5, 6] rfl)
    exact bf_n hI h1 c_37 c1 hB hf t0 t1 t2 rfl
set_option maxHeartbeats 4000000 in
set_option maxRecDepth 100000 in
theorem ntt_mid (F : CallFix p m c cX2_ntt 7 s args lw_all RX2) (hK : va_K (dC, dI) vwCl [(cI, .int)] s) (hZ : gZ t A s s.heap) (hR : 1 ≤ R.frames ∧ 22 ≤ R.locals) {n : Nat} (hl0 : LV n) {f : Nat → Int32} {B : Int} (hB : B ≤ 2000000000) (hf : ∀ i, i < 256 → -B ≤ (f i).toInt ∧ (f i).toInt ≤ B)
    (kk : ∀ (g : Nat → Int32) (H : Heap) (locs : List Loc) (ls : Array Slot), nInv (ly n) n 256 256 f g (B + 8380417) → va_P (dC, dI) vwCl (aW h0 cI g) H → va_D A (aW h0 cI g) → va_S A s.heap H locs → lv_has ls 7 [(0, .ref h0), (1, .int (nI n)), (4, .int (nI (128 / n - 1 + 128 / n)))] → W p l e R s m args below meth c H locs 0 0 Q (F0 m 88 ls [])) :
    ∀ (d b : Nat) (g : Nat → Int32) (H : Heap) (locs : List Loc) (ls : Array Slot), b + d = 128 / n → nInv (ly n) n (2 * n * b) (2 * n * b) f g (B + 8380417) → va_P (dC, dI) vwCl (aW h0 cI g) H → va_D A (aW h0 cI g) → va_S A s.heap H locs → lv_has ls 7 [(0, .ref h0), (1, .int (nI n)), (2, .int (nI (2 * n * b))), (4, .int (nI (128 / n - 1 + b)))] → W p l e R s m args below meth c H locs 0 0 Q (F0 m 13 ls []) := by
  obtain ⟨hx, hb, hml, hown, hts⟩ := id F
  obtain ⟨n1, n2, n3, n4, -⟩ := hl0.nb
  intro d
  induction d with
  | zero =>
    intro b g H locs ls hj hI hP hD hS hl
    have ej : b = 128 / n := by omega
    subst ej
    rw [n1] at hI
    refine lv_iload_n hx hb dX2_ntt_13 rfl (lv_at hl 2 rfl) ?_
    refine lv_sipush (v := nI 256) hx hb dX2_ntt_14 (by decide) ?_
    refine vn_ge (tgt := 88) hx hb (by omega) (by omega) dX2_ntt_17 (by decide) (fun c_17 => ?_) (fun c_17 => absurd c_17 (by omega))
    exact kk g H locs ls hI hP hD hS (lv_sub hl [0, 1, 3] rfl)
  | succ d ih =>
    intro b g H locs ls hj hI hP hD hS hl
    obtain ⟨c1, c2, c3, c4, c5⟩ := hl0.bb (b := b) (by omega)
    refine lv_iload_n hx hb dX2_ntt_13 rfl (lv_at hl 2 rfl) ?_
    refine lv_sipush (v := nI 256) hx hb dX2_ntt_14 (by decide) ?_
    refine vn_ge (tgt := 88) hx hb (by omega) (by omega) dX2_ntt_17 (by decide) (fun c_17 => absurd c_17 (by omega)) (fun c_17 => ?_)
    refine va_gets hx hb hZ.1 hS hown (hts _ q45) (fun _ h => h) dX2_ntt_20 ?_
    refine lv_iinc (v := nI (128 / n + b)) (lv' := [(4, .int (nI (128 / n + b))), (0, .ref h0), (1, .int (nI n)), (2, .int (nI (2 * n * b)))]) hx hb dX2_ntt_23 hl (k := 3) rfl (by rw [show 128 / n + b = 128 / n - 1 + b + 1 by omega]; exact nI_1 _) (by decide) rfl (fun ls hl => ?_)
    refine lv_iload hx hb dX2_ntt_26 (lv_at hl 0 rfl) ?_
    refine vn_ti hx hb hZ.2 hS c3 (by decide) dX2_ntt_28 ?_
    refine lv_istore (lv' := [(5, .int (ztJ (128 / n + b))), (4, .int (nI (128 / n + b))), (0, .ref h0), (1, .int (nI n)), (2, .int (nI (2 * n * b)))]) hx hb dX2_ntt_29 hl (by decide) rfl (fun ls hl => ?_)
    refine lv_iload_n hx hb dX2_ntt_31 rfl (lv_at hl 4 rfl) ?_
    refine lv_istore_n (lv' := [(3, .int (nI (2 * n * b))), (5, .int (ztJ (128 / n + b))), (4, .int (nI (128 / n + b))), (0, .ref h0), (1, .int (nI n)), (2, .int (nI (2 * n * b)))]) hx hb dX2_ntt_32 rfl hl (by decide) rfl (fun ls hl => ?_)
    refine ntt_in F hK hR hl0 (by omega) hB hf (nI (128 / n + b)) (ztJ (128 / n + b)) (ztJ_i c3) (fun g H locs ls hI hP hD hS hl => ?_) n (2 * n * b) g H locs ls rfl (Nat.le_refl _) hI hP hD hS (lv_sub hl [3, 4, 5, 0, 2, 1] rfl)
    refine lv_iload_n hx hb dX2_ntt_81 rfl (lv_at hl 3 rfl) ?_
    refine lv_iload_n hx hb dX2_ntt_82 rfl (lv_at hl 1 rfl) ?_
    refine vn_iadd hx hb dX2_ntt_83 ?_
    refine lv_istore_n (lv' := [(2, .int (nI (2 * n * b + n + n))), (0, .ref h0), (1, .int (nI n)), (3, .int (nI (2 * n * b + n))), (4, .int (nI (128 / n + b)))]) hx hb dX2_ntt_84 rfl hl (by decide) rfl (fun ls hl => ?_)
    refine lv_goto (tgt := 13) hx hb dX2_ntt_85 (by decide) ?_
    have hI := nInv_next hI
    rw [← c2] at hI
    have hl : lv_has ls 7 [(0, .ref h0), (1, .int (nI n)), (2, .int (nI (2 * n * (b + 1)))), (4, .int (nI (128 / n - 1 + (b + 1))))] := by
      rw [c2, show 128 / n - 1 + (b + 1) = 128 / n + b by omega]
      exact lv_sub hl [1, 2, 0, 4] rfl
    exact ih (b + 1) g H locs ls (by omega) hI hP hD hS hl
theorem LV.inv {k : Nat} (h : k < 8) : 128 / (128 / 2 ^ k) = 2 ^ k ∧ 128 / 2 ^ k / 2 ^ 1 = 128 / 2 ^ (k + 1) ∧ 2 ^ k - 1 + 2 ^ k = 2 ^ (k + 1) - 1 ∧ 2 ^ k < 256 ∧ 0 < 2 ^ k ∧ 256 / 2 ^ k = 2 * 2 ^ (7 - k) ∧ 128 / 2 ^ k = 2 ^ (7 - k) := by
  rcases (show k = 0 ∨ k = 1 ∨ k = 2 ∨ k = 3 ∨ k = 4 ∨ k = 5 ∨ k = 6 ∨ k = 7 by omega) with h | h | h | h | h | h | h | h <;> subst h <;> decide
/-- what stands after k levels of ntt -/
def nSt (f g : Nat → Int32) (k : Nat) : Prop := ∀ i, i < 256 → cg (g i).toInt (nt k (tI f) i) ∧ -((k + 1 : Nat) * 8380417) ≤ (g i).toInt ∧ (g i).toInt ≤ (k + 1 : Nat) * 8380417
theorem nSt_next {f g g' : Nat → Int32} {k : Nat} (hk : k < 8) (h : nSt f g k) (h2 : nInv (ly (128 / 2 ^ k)) (128 / 2 ^ k) 256 256 g g' ((k + 1 : Nat) * 8380417 + 8380417)) : nSt f g' (k + 1) := by
  intro i hi
  obtain ⟨a1, a2, a3⟩ := nInv_end h2 i hi
  have e : ((k + 1 + 1 : Nat) : Int) * 8380417 = ((k + 1 : Nat) : Int) * 8380417 + 8380417 := by omega
  rw [e]
  exact ⟨a1.tr (ly_cg (LV_d hk) (fun j hj => (h j hj).1) i hi), a2, a3⟩
set_option maxHeartbeats 4000000 in
set_option maxRecDepth 100000 in
theorem ntt_out (F : CallFix p m c cX2_ntt 7 s args lw_all RX2) (hK : va_K (dC, dI) vwCl [(cI, .int)] s) (hZ : gZ t A s s.heap) (hR : 1 ≤ R.frames ∧ 22 ≤ R.locals) (f : Nat → Int32)
    (kk : ∀ (g : Nat → Int32) (H : Heap) (locs : List Loc) (ls : Array Slot), nSt f g 8 → va_P (dC, dI) vwCl (aW h0 cI g) H → va_D A (aW h0 cI g) → va_S A s.heap H locs → W p l e R s m args below meth c H locs 0 0 Q (F0 m 95 ls [])) :
    ∀ (d k : Nat) (g : Nat → Int32) (H : Heap) (locs : List Loc) (ls : Array Slot), k + d = 8 → nSt f g k → va_P (dC, dI) vwCl (aW h0 cI g) H → va_D A (aW h0 cI g) → va_S A s.heap H locs → lv_has ls 7 [(0, .ref h0), (1, .int (nI (128 / 2 ^ k))), (4, .int (nI (2 ^ k - 1)))] → W p l e R s m args below meth c H locs 0 0 Q (F0 m 7 ls []) := by
  obtain ⟨hx, hb, hml, hown, hts⟩ := id F
  intro d
  induction d with
  | zero =>
    intro k g H locs ls hj hI hP hD hS hl
    have ej : k = 8 := by omega
    subst ej
    refine lv_iload_n hx hb dX2_ntt_7 rfl (lv_at hl 1 rfl) ?_
    refine lv_if_le (tgt := 95) hx hb dX2_ntt_8 (by decide) (fun _ => ?_) (fun c_8 => absurd (by decide) c_8)
    exact kk g H locs ls hI hP hD hS
  | succ d ih =>
    intro k g H locs ls hj hI hP hD hS hl
    have hk : k < 8 := by omega
    obtain ⟨v1, v2, v3, v4, v5, v6, v7⟩ := LV.inv hk
    obtain ⟨n1, n2, n3, n4, -⟩ := (LV_d hk).nb
    refine lv_iload_n hx hb dX2_ntt_7 rfl (lv_at hl 1 rfl) ?_
    refine lv_if_le (tgt := 95) hx hb dX2_ntt_8 (by decide) (fun c_8 => absurd c_8 (nI_nle n2 (by omega))) (fun _ => ?_)
    refine lv_iconst (v := nI 0) hx hb dX2_ntt_11 (by decide) ?_
    refine lv_istore_n (lv' := [(2, .int (nI 0)), (0, .ref h0), (1, .int (nI (128 / 2 ^ k))), (4, .int (nI (2 ^ k - 1)))]) hx hb dX2_ntt_12 rfl hl (by decide) rfl (fun ls hl => ?_)
    have hl : lv_has ls 7 [(0, .ref h0), (1, .int (nI (128 / 2 ^ k))), (2, .int (nI (2 * (128 / 2 ^ k) * 0))), (4, .int (nI (128 / (128 / 2 ^ k) - 1 + 0)))] := by
      rw [v1, Nat.mul_zero, Nat.add_zero]
      exact lv_sub hl [1, 2, 0, 3] rfl
    refine ntt_mid F hK hZ hR (LV_d hk) (f := g) (B := (k + 1 : Nat) * 8380417) (by omega) (fun i hi => (hI i hi).2) (fun g' H locs ls hI2 hP hD hS hl => ?_) (128 / (128 / 2 ^ k)) 0 g H locs ls (Nat.zero_add _) ?_ hP hD hS hl
    · have hI := nSt_next hk hI hI2
      rw [v1, v3] at hl
      refine lv_iload_n hx hb dX2_ntt_88 rfl (lv_at hl 1 rfl) ?_
      refine lv_iconst (v := 1) hx hb dX2_ntt_89 (by decide) ?_
      refine lv_iushr (v := nI (128 / 2 ^ (k + 1))) hx hb dX2_ntt_90 (by rw [← v2]; exact pk_ushrN (by omega) 1 1 (by decide)) ?_
      refine lv_istore_n (lv' := [(1, .int (nI (128 / 2 ^ (k + 1)))), (0, .ref h0), (4, .int (nI (2 ^ (k + 1) - 1)))]) hx hb dX2_ntt_91 rfl hl (by decide) rfl (fun ls hl => ?_)
      refine lv_goto (tgt := 7) hx hb dX2_ntt_92 (by decide) ?_
      exact ih (k + 1) g' H locs ls (by omega) hI hP hD hS (lv_sub hl [1, 0, 2] rfl)
    · rw [Nat.mul_zero]; exact nInv_0 _ _ _ _
end NTT
set_option maxHeartbeats 4000000 in
set_option maxRecDepth 100000 in
theorem metX2_ntt (l : Launch) (dC : Nat → ClassId) (dI : Nat → Nat → Nat) (cI : ClassId) (h0 t sz : Nat) (f : Nat → Int32) (hf : ∀ i, i < 256 → -8380417 ≤ (f i).toInt ∧ (f i).toInt ≤ 8380417) : Met l yX2_ntt (ws_ yX2_ntt cX2_ntt 7 none) ({ frames := 1, cells := 0, slots := 0, locals := 22 }) (va_Pc [.ref h0] (fun U => U.heap.size = sz ∧ va_P (dC, dI) vwCl (aW h0 cI f) U.heap ∧ va_K (dC, dI) vwCl [(cI, .int)] U ∧ va_D (fun _ => True) (aW h0 cI f) ∧ gZ t (va_A (aW h0 cI f) sz) U U.heap)) (va_Qv (fun u : Nat → Int32 => nSt f u 8) (fun u T => va_P (dC, dI) vwCl (aW h0 cI u) T.heap ∧ va_D (va_A (aW h0 cI f) sz) (aW h0 cI u)) (va_A (aW h0 cI f) sz)) 0 0 (va_A (aW h0 cI f) sz) := by

  refine Met.ofW (cc := cX2_ntt) (maxL := 7) (ret := none) (by decide) rfl ?_
  intro p e s m args below meth c s₁ B hml hv
  obtain ⟨rfl, hsz, hP, hK, hD0, hZ⟩ := hv
  have hx := B.exec
  have hb := B.bytes
  have hr := B.returns
  have hts := atoms_spec (ws := ws_ yX2_ntt cX2_ntt 7 (none)) B.pre
  have hts : ∀ w ∈ lw_all, w.before _ s = true := fun w h => hts w (List.mem_cons_of_mem _ h)
  have hown : s.vm.findClass RX2 = some m.cls := findClass_of_methodNamed B.named
  have hlocks := B.notSynchronized
  subst hsz
  have hD := hD0.self (sz := s.heap.size)
  generalize hAe : va_A (aW h0 cI f) s.heap.size = A at hD hZ ⊢
  have hS : va_S A s.heap s.heap [] := va_S.rf
  have hl := lv_entry ([.ref h0]) (n := 7) (Nat.le_of_ble_eq_true rfl)
  rw [lg_entry_eq]
  generalize (lg_sl ([.ref h0]) ++ List.replicate (7 - (lg_sl ([.ref h0])).length) Slot.unset).toArray = ls at hl ⊢
  have hl : lv_has ls 7 [(0, .ref h0)] := hl
  refine lv_iconst (v := nI 0) hx hb dX2_ntt_0 (by decide) ?_
  refine lv_istore (lv' := [(4, .int (nI 0)), (0, .ref h0)]) hx hb dX2_ntt_1 hl (by decide) rfl (fun ls hl => ?_)
  refine lv_sipush (v := nI 128) hx hb dX2_ntt_3 (by decide) ?_
  refine lv_istore_n (lv' := [(1, .int (nI 128)), (4, .int (nI 0)), (0, .ref h0)]) hx hb dX2_ntt_6 rfl hl (by decide) rfl (fun ls hl => ?_)
  refine ntt_out ⟨hx, hb, hml, hown, hts⟩ hK hZ ⟨Nat.le_of_ble_eq_true rfl, Nat.le_of_ble_eq_true rfl⟩ f (fun g H locs ls hI hP hD hS => ?_) 8 0 f s.heap [] ls rfl (fun i hi => ⟨cg.rf _, ?_⟩) hP hD hS (lv_sub hl [2, 0, 1] rfl)
  · exact W.vret hx hb hr (fun T hT hW => ⟨⟨g, rfl, hI, by rw [hT]; exact hP, hD⟩, hS.F hT⟩) hS.2.2 dX2_ntt_95
  · have h := hf i hi
    omega
section INV
variable {p : Program} {l : Launch} {e : Env} {R : Room} {s : State} {m : MethodId} {args : Array Value} {below : List Frame} {meth : Method} {c : Code} {Q : State → Prop} {dC : Nat → ClassId} {dI : Nat → Nat → Nat} {A : Nat → Prop} {h0 t : Nat} {cI : ClassId}
set_option maxHeartbeats 4000000 in
set_option maxRecDepth 100000 in
theorem inv_in (F : CallFix p m c cX2_invNttToMont 7 s args lw_all RX2) (hK : va_K (dC, dI) vwCl [(cI, .int)] s) (hR : 1 ≤ R.frames ∧ 22 ≤ R.locals) {n b : Nat} (hl0 : LV n) (hbn : b < 128 / n) {f : Nat → Int32} {B : Int} (hB0 : 8380417 ≤ B) (hB : B ≤ 1073741823) (hf : ∀ i, i < 256 → -B ≤ (f i).toInt ∧ (f i).toInt ≤ B) (x4 zv : Int32) (hz : zv.toInt = -zI (256 / n - 1 - b))
    (kk : ∀ (g : Nat → Int32) (H : Heap) (locs : List Loc) (ls : Array Slot), nInv (il n) n (2 * n * b) (2 * n * b + n) f g (2 * B) → va_P (dC, dI) vwCl (aW h0 cI g) H → va_D A (aW h0 cI g) → va_S A s.heap H locs → lv_has ls 7 [(0, .ref h0), (1, .int (nI (2 * n * b))), (2, .int (nI n)), (3, .int (nI (2 * n * b + n))), (4, .int x4)] → W p l e R s m args below meth c H locs 0 0 Q (F0 m 98 ls [])) :
    ∀ (d j : Nat) (g : Nat → Int32) (H : Heap) (locs : List Loc) (ls : Array Slot), j + d = 2 * n * b + n → 2 * n * b ≤ j → nInv (il n) n (2 * n * b) j f g (2 * B) → va_P (dC, dI) vwCl (aW h0 cI g) H → va_D A (aW h0 cI g) → va_S A s.heap H locs → lv_has ls 7 [(0, .ref h0), (1, .int (nI (2 * n * b))), (2, .int (nI n)), (3, .int (nI j)), (4, .int x4), (6, .int zv)] → W p l e R s m args below meth c H locs 0 0 Q (F0 m 38 ls []) := by
  obtain ⟨hx, hb, hml, hown, hts⟩ := id F
  obtain ⟨n1, n2, n3, n4, -⟩ := hl0.nb
  obtain ⟨c1, c2, c3, c4, c5⟩ := hl0.bb hbn
  obtain ⟨z1, z2⟩ := zI_b c4
  intro d
  induction d with
  | zero =>
    intro j g H locs ls hj h1 hI hP hD hS hl
    have ej : j = 2 * n * b + n := by omega
    subst ej
    refine lv_iload_n hx hb dX2_invNttToMont_38 rfl (lv_at hl 3 rfl) ?_
    refine lv_iload_n hx hb dX2_invNttToMont_39 rfl (lv_at hl 1 rfl) ?_
    refine lv_iload_n hx hb dX2_invNttToMont_40 rfl (lv_at hl 2 rfl) ?_
    refine vn_iadd hx hb dX2_invNttToMont_41 ?_
    refine vn_ge (tgt := 98) hx hb (by omega) (by omega) dX2_invNttToMont_42 (by decide) (fun c_42 => ?_) (fun c_42 => absurd c_42 (by omega))
    exact kk g H locs ls hI hP hD hS (lv_sub hl [0, 1, 2, 3, 4] rfl)
  | succ d ih =>
    intro j g H locs ls hj h1 hI hP hD hS hl
    refine lv_iload_n hx hb dX2_invNttToMont_38 rfl (lv_at hl 3 rfl) ?_
    refine lv_iload_n hx hb dX2_invNttToMont_39 rfl (lv_at hl 1 rfl) ?_
    refine lv_iload_n hx hb dX2_invNttToMont_40 rfl (lv_at hl 2 rfl) ?_
    refine vn_iadd hx hb dX2_invNttToMont_41 ?_
    refine vn_ge (tgt := 98) hx hb (by omega) (by omega) dX2_invNttToMont_42 (by decide) (fun c_42 => absurd c_42 (by omega)) (fun c_42 => ?_)
    obtain ⟨ej, ek⟩ := nInv_j hI h1 c_42 c1
    have ne : j ≠ j + n := by omega
    refine lv_aload_n hx hb dX2_invNttToMont_45 rfl (lv_at hl 0 rfl) ?_
    refine lv_iload_n hx hb dX2_invNttToMont_46 rfl (lv_at hl 3 rfl) ?_
    refine vn_iald hx hb hK hP 0 0 rfl rfl (by omega) (by decide) dX2_invNttToMont_47 ?_
    refine lv_topi (fun t_47 et_47 => ?_)
    refine lv_istore (lv' := [(5, .int t_47), (0, .ref h0), (1, .int (nI (2 * n * b))), (2, .int (nI n)), (3, .int (nI j)), (4, .int x4), (6, .int zv)]) hx hb dX2_invNttToMont_48 hl (by decide) rfl (fun ls hl => ?_)
    refine lv_aload_n hx hb dX2_invNttToMont_50 rfl (lv_at hl 1 rfl) ?_
    refine lv_iload_n hx hb dX2_invNttToMont_51 rfl (lv_at hl 4 rfl) ?_
    refine lv_iload hx hb dX2_invNttToMont_52 (lv_at hl 0 rfl) ?_
    refine lv_aload_n hx hb dX2_invNttToMont_54 rfl (lv_at hl 1 rfl) ?_
    refine lv_iload_n hx hb dX2_invNttToMont_55 rfl (lv_at hl 4 rfl) ?_
    refine lv_iload_n hx hb dX2_invNttToMont_56 rfl (lv_at hl 3 rfl) ?_
    refine vn_iadd hx hb dX2_invNttToMont_57 ?_
    refine vn_iald hx hb hK hP 0 0 rfl rfl (by omega) (by decide) dX2_invNttToMont_58 ?_
    refine lv_iadd hx hb dX2_invNttToMont_59 ?_
    refine lv_topi (fun a_59 ea_59 => ?_)
    refine vn_iast hx hb hK hP hD hS 0 0 rfl rfl (by omega) (by decide) dX2_invNttToMont_60 (fun H locs hP hD hS => ?_)
    have hP : va_P (dC, dI) vwCl (aW h0 cI (upd g j a_59)) H := hP
    have hD : va_D A (aW h0 cI (upd g j a_59)) := hD
    refine lv_aload_n hx hb dX2_invNttToMont_61 rfl (lv_at hl 1 rfl) ?_
    refine lv_iload_n hx hb dX2_invNttToMont_62 rfl (lv_at hl 4 rfl) ?_
    refine lv_iload_n hx hb dX2_invNttToMont_63 rfl (lv_at hl 3 rfl) ?_
    refine vn_iadd hx hb dX2_invNttToMont_64 ?_
    refine lv_iload hx hb dX2_invNttToMont_65 (lv_at hl 0 rfl) ?_
    refine lv_aload_n hx hb dX2_invNttToMont_67 rfl (lv_at hl 1 rfl) ?_
    refine lv_iload_n hx hb dX2_invNttToMont_68 rfl (lv_at hl 4 rfl) ?_
    refine lv_iload_n hx hb dX2_invNttToMont_69 rfl (lv_at hl 3 rfl) ?_
    refine vn_iadd hx hb dX2_invNttToMont_70 ?_
    refine vn_iald hx hb hK hP 0 0 rfl rfl (by omega) (by decide) dX2_invNttToMont_71 ?_
    refine lv_isub hx hb dX2_invNttToMont_72 ?_
    refine lv_topi (fun a_72 ea_72 => ?_)
    refine vn_iast hx hb hK hP hD hS 0 0 rfl rfl (by omega) (by decide) dX2_invNttToMont_73 (fun H locs hP hD hS => ?_)
    have hP : va_P (dC, dI) vwCl (aW h0 cI (upd (upd g j a_59) (j + n) a_72)) H := hP
    have hD : va_D A (aW h0 cI (upd (upd g j a_59) (j + n) a_72)) := hD
    refine lv_aload_n hx hb dX2_invNttToMont_74 rfl (lv_at hl 1 rfl) ?_
    refine lv_iload_n hx hb dX2_invNttToMont_75 rfl (lv_at hl 4 rfl) ?_
    refine lv_iload_n hx hb dX2_invNttToMont_76 rfl (lv_at hl 3 rfl) ?_
    refine vn_iadd hx hb dX2_invNttToMont_77 ?_
    refine lv_iload hx hb dX2_invNttToMont_78 (lv_at hl 6 rfl) ?_
    refine lv_i2l hx hb dX2_invNttToMont_80 rfl ?_
    refine lv_aload_n hx hb dX2_invNttToMont_81 rfl (lv_at hl 1 rfl) ?_
    refine lv_iload_n hx hb dX2_invNttToMont_82 rfl (lv_at hl 4 rfl) ?_
    refine lv_iload_n hx hb dX2_invNttToMont_83 rfl (lv_at hl 3 rfl) ?_
    refine vn_iadd hx hb dX2_invNttToMont_84 ?_
    refine vn_iald hx hb hK hP 0 0 rfl rfl (by omega) (by decide) dX2_invNttToMont_85 ?_
    refine lv_i2l hx hb dX2_invNttToMont_86 rfl ?_
    refine lv_lmul hx hb dX2_invNttToMont_87 ?_
    refine lv_topl (fun y_88 ey_88 => ?_)
    refine vp_callSi (va_Run.run (va_runS (As := [.long y_88]) (rest := [.int (nI (j + n)), .ref h0]) ⟨hx, hb, hml, hown, hts⟩ (metX3_montgomeryReduce l y_88) (va_cwS 1 hts (lw_S q47 q48 q5 q49) rfl rfl rfl (by decide +kernel) hR) ⟨fun _ _ _ _ q => q, fun U hU hW => ⟨rfl, trivial⟩⟩ rfl rfl hl.1 rfl (lv_room (Nat.le_of_ble_eq_true rfl)) dX2_invNttToMont_88 ⟨Nat.zero_le _, Nat.zero_le _⟩)) (fun r_88 hr_88 => ?_)
    rw [ey_88, pk_us] at hr_88
    have b1 := hf j (by omega)
    have b2 := hf (j + n) (by omega)
    have es : a_72 = f j - f (j + n) := by rw [ea_72, et_47, pk_un (Ne.symm ne), ej, ek]
    have es2 : a_72.toInt = (f j).toInt - (f (j + n)).toInt := by rw [es]; exact ar_sub (by omega) (by omega)
    obtain ⟨t0, t1, t2⟩ := mz hz (by omega) (by omega) hr_88
    rw [es2] at t0
    refine vn_iast hx hb hK hP hD hS 0 0 rfl rfl (by omega) (by decide) dX2_invNttToMont_91 (fun H locs hP hD hS => ?_)
    refine lv_iinc (v := nI (j + 1)) (lv' := [(3, .int (nI (j + 1))), (5, .int t_47), (0, .ref h0), (1, .int (nI (2 * n * b))), (2, .int (nI n)), (4, .int x4), (6, .int zv)]) hx hb dX2_invNttToMont_92 hl (k := 4) rfl (nI_1 j) (by decide) rfl (fun ls hl => ?_)
    refine lv_goto (tgt := 38) hx hb dX2_invNttToMont_95 (by decide) ?_
    refine ih (j + 1) (upd (upd (upd g j a_59) (j + n) a_72) (j + n) r_88) H locs ls (by omega) (by omega) ?_ hP hD hS (lv_sub hl [2, 3, 4, 0, 5, 6] rfl)
    exact bf_i hI h1 c_42 c1 hB0 hB hf t0 t1 t2 (by rw [pk_un ne, pk_un ne, pk_us, ea_59, et_47]) pk_us (fun i q1 q2 => by rw [pk_un q2, pk_un q2, pk_un q1])
set_option maxHeartbeats 4000000 in
set_option maxRecDepth 100000 in
theorem inv_mid (F : CallFix p m c cX2_invNttToMont 7 s args lw_all RX2) (hK : va_K (dC, dI) vwCl [(cI, .int)] s) (hZ : gZ t A s s.heap) (hR : 1 ≤ R.frames ∧ 22 ≤ R.locals) {n : Nat} (hl0 : LV n) {f : Nat → Int32} {B : Int} (hB0 : 8380417 ≤ B) (hB : B ≤ 1073741823) (hf : ∀ i, i < 256 → -B ≤ (f i).toInt ∧ (f i).toInt ≤ B)
    (kk : ∀ (g : Nat → Int32) (H : Heap) (locs : List Loc) (ls : Array Slot), nInv (il n) n 256 256 f g (2 * B) → va_P (dC, dI) vwCl (aW h0 cI g) H → va_D A (aW h0 cI g) → va_S A s.heap H locs → lv_has ls 7 [(0, .ref h0), (2, .int (nI n)), (4, .int (nI (256 / n - 128 / n)))] → W p l e R s m args below meth c H locs 0 0 Q (F0 m 105 ls [])) :
    ∀ (d b : Nat) (g : Nat → Int32) (H : Heap) (locs : List Loc) (ls : Array Slot), b + d = 128 / n → nInv (il n) n (2 * n * b) (2 * n * b) f g (2 * B) → va_P (dC, dI) vwCl (aW h0 cI g) H → va_D A (aW h0 cI g) → va_S A s.heap H locs → lv_has ls 7 [(0, .ref h0), (1, .int (nI (2 * n * b))), (2, .int (nI n)), (4, .int (nI (256 / n - b)))] → W p l e R s m args below meth c H locs 0 0 Q (F0 m 16 ls []) := by
  obtain ⟨hx, hb, hml, hown, hts⟩ := id F
  obtain ⟨n1, n2, n3, n4, n5⟩ := hl0.nb
  intro d
  induction d with
  | zero =>
    intro b g H locs ls hj hI hP hD hS hl
    have ej : b = 128 / n := by omega
    subst ej
    rw [n1] at hI
    refine lv_iload_n hx hb dX2_invNttToMont_16 rfl (lv_at hl 1 rfl) ?_
    refine lv_sipush (v := nI 256) hx hb dX2_invNttToMont_17 (by decide) ?_
    refine vn_ge (tgt := 105) hx hb (by omega) (by omega) dX2_invNttToMont_20 (by decide) (fun c_17 => ?_) (fun c_17 => absurd c_17 (by omega))
    exact kk g H locs ls hI hP hD hS (lv_sub hl [0, 2, 3] rfl)
  | succ d ih =>
    intro b g H locs ls hj hI hP hD hS hl
    obtain ⟨c1, c2, c3, c4, c5⟩ := hl0.bb (b := b) (by omega)
    refine lv_iload_n hx hb dX2_invNttToMont_16 rfl (lv_at hl 1 rfl) ?_
    refine lv_sipush (v := nI 256) hx hb dX2_invNttToMont_17 (by decide) ?_
    refine vn_ge (tgt := 105) hx hb (by omega) (by omega) dX2_invNttToMont_20 (by decide) (fun c_17 => absurd c_17 (by omega)) (fun c_17 => ?_)
    refine lv_iconst (v := -1) hx hb dX2_invNttToMont_23 (by decide) ?_
    refine va_gets hx hb hZ.1 hS hown (hts _ q45) (fun _ h => h) dX2_invNttToMont_24 ?_
    refine lv_iinc (v := nI (256 / n - 1 - b)) (lv' := [(4, .int (nI (256 / n - 1 - b))), (0, .ref h0), (1, .int (nI (2 * n * b))), (2, .int (nI n))]) hx hb dX2_invNttToMont_27 hl (k := 3) rfl (by rw [show 256 / n - b = 256 / n - 1 - b + 1 by omega]; exact pk_m1 _) (by decide) rfl (fun ls hl => ?_)
    refine lv_iload hx hb dX2_invNttToMont_30 (lv_at hl 0 rfl) ?_
    refine vn_ti hx hb hZ.2 hS c4 (by decide) dX2_invNttToMont_32 ?_
    refine lv_imul hx hb dX2_invNttToMont_33 ?_
    refine lv_topi (fun z_33 ez_33 => ?_)
    have hz : z_33.toInt = -zI (256 / n - 1 - b) := by
      have b1 := zI_b c4
      have e1 := ztJ_i c4
      have m1 : (-1 : Int32).toInt = -1 := by decide
      rw [ez_33, ar_mul (by rw [m1, e1]; omega) (by rw [m1, e1]; omega), m1, e1]
      omega
    refine lv_istore (lv' := [(6, .int z_33), (4, .int (nI (256 / n - 1 - b))), (0, .ref h0), (1, .int (nI (2 * n * b))), (2, .int (nI n))]) hx hb dX2_invNttToMont_34 hl (by decide) rfl (fun ls hl => ?_)
    refine lv_iload_n hx hb dX2_invNttToMont_36 rfl (lv_at hl 3 rfl) ?_
    refine lv_istore_n (lv' := [(3, .int (nI (2 * n * b))), (6, .int z_33), (4, .int (nI (256 / n - 1 - b))), (0, .ref h0), (1, .int (nI (2 * n * b))), (2, .int (nI n))]) hx hb dX2_invNttToMont_37 rfl hl (by decide) rfl (fun ls hl => ?_)
    refine inv_in F hK hR hl0 (by omega) hB0 hB hf (nI (256 / n - 1 - b)) z_33 hz (fun g H locs ls hI hP hD hS hl => ?_) n (2 * n * b) g H locs ls rfl (Nat.le_refl _) hI hP hD hS (lv_sub hl [3, 4, 5, 0, 2, 1] rfl)
    refine lv_iload_n hx hb dX2_invNttToMont_98 rfl (lv_at hl 3 rfl) ?_
    refine lv_iload_n hx hb dX2_invNttToMont_99 rfl (lv_at hl 2 rfl) ?_
    refine vn_iadd hx hb dX2_invNttToMont_100 ?_
    refine lv_istore_n (lv' := [(1, .int (nI (2 * n * b + n + n))), (0, .ref h0), (2, .int (nI n)), (3, .int (nI (2 * n * b + n))), (4, .int (nI (256 / n - 1 - b)))]) hx hb dX2_invNttToMont_101 rfl hl (by decide) rfl (fun ls hl => ?_)
    refine lv_goto (tgt := 16) hx hb dX2_invNttToMont_102 (by decide) ?_
    have hI := nInv_next hI
    rw [← c2] at hI
    have hl : lv_has ls 7 [(0, .ref h0), (1, .int (nI (2 * n * (b + 1)))), (2, .int (nI n)), (4, .int (nI (256 / n - (b + 1))))] := by
      rw [c2, show 256 / n - (b + 1) = 256 / n - 1 - b by omega]
      exact lv_sub hl [1, 0, 2, 4] rfl
    exact ih (b + 1) g H locs ls (by omega) hI hP hD hS hl
theorem LV.inv2 {k : Nat} (h : k < 8) : 2 ^ k * 2 ^ 1 = 2 ^ (k + 1) ∧ 256 / 2 ^ k - 128 / 2 ^ k = 256 / 2 ^ (k + 1) ∧ 2 ^ k < 256 ∧ 0 < 2 ^ k := by
  rcases (show k = 0 ∨ k = 1 ∨ k = 2 ∨ k = 3 ∨ k = 4 ∨ k = 5 ∨ k = 6 ∨ k = 7 by omega) with h | h | h | h | h | h | h | h <;> subst h <;> decide
/-- what stands after k levels of the inverse -/
def iSt (f g : Nat → Int32) (k : Nat) : Prop := ∀ i, i < 256 → cg (g i).toInt (iv k (tI f) i) ∧ -((2 ^ k : Nat) * 8380417) ≤ (g i).toInt ∧ (g i).toInt ≤ (2 ^ k : Nat) * 8380417
theorem iSt_next {f g g' : Nat → Int32} {k : Nat} (hk : k < 8) (h : iSt f g k) (h2 : nInv (il (2 ^ k)) (2 ^ k) 256 256 g g' (2 * ((2 ^ k : Nat) * 8380417))) : iSt f g' (k + 1) := by
  intro i hi
  obtain ⟨a1, a2, a3⟩ := nInv_end h2 i hi
  have e : ((2 ^ (k + 1) : Nat) : Int) * 8380417 = 2 * (((2 ^ k : Nat) : Int) * 8380417) := by
    rw [Nat.pow_succ]
    omega
  rw [e]
  exact ⟨a1.tr (il_cg (LV_u hk) (fun j hj => (h j hj).1) i hi), a2, a3⟩
set_option maxHeartbeats 4000000 in
set_option maxRecDepth 100000 in
theorem inv_out (F : CallFix p m c cX2_invNttToMont 7 s args lw_all RX2) (hK : va_K (dC, dI) vwCl [(cI, .int)] s) (hZ : gZ t A s s.heap) (hR : 1 ≤ R.frames ∧ 22 ≤ R.locals) (f : Nat → Int32)
    (kk : ∀ (g : Nat → Int32) (H : Heap) (locs : List Loc) (ls : Array Slot), iSt f g 8 → va_P (dC, dI) vwCl (aW h0 cI g) H → va_D A (aW h0 cI g) → va_S A s.heap H locs → lv_has ls 7 [(0, .ref h0)] → W p l e R s m args below meth c H locs 0 0 Q (F0 m 112 ls [])) :
    ∀ (d k : Nat) (g : Nat → Int32) (H : Heap) (locs : List Loc) (ls : Array Slot), k + d = 8 → iSt f g k → va_P (dC, dI) vwCl (aW h0 cI g) H → va_D A (aW h0 cI g) → va_S A s.heap H locs → lv_has ls 7 [(0, .ref h0), (2, .int (nI (2 ^ k))), (4, .int (nI (256 / 2 ^ k)))] → W p l e R s m args below meth c H locs 0 0 Q (F0 m 7 ls []) := by
  obtain ⟨hx, hb, hml, hown, hts⟩ := id F
  intro d
  induction d with
  | zero =>
    intro k g H locs ls hj hI hP hD hS hl
    have ej : k = 8 := by omega
    subst ej
    refine lv_iload_n hx hb dX2_invNttToMont_7 rfl (lv_at hl 1 rfl) ?_
    refine lv_sipush (v := nI 256) hx hb dX2_invNttToMont_8 (by decide) ?_
    refine vn_ge (tgt := 112) hx hb (by decide) (by decide) dX2_invNttToMont_11 (by decide) (fun _ => ?_) (fun c_8 => absurd c_8 (by decide))
    exact kk g H locs ls hI hP hD hS (lv_sub hl [0] rfl)
  | succ d ih =>
    intro k g H locs ls hj hI hP hD hS hl
    have hk : k < 8 := by omega
    obtain ⟨v1, v2, v3, v4⟩ := LV.inv2 hk
    obtain ⟨n1, n2, n3, n4, n5⟩ := (LV_u hk).nb
    refine lv_iload_n hx hb dX2_invNttToMont_7 rfl (lv_at hl 1 rfl) ?_
    refine lv_sipush (v := nI 256) hx hb dX2_invNttToMont_8 (by decide) ?_
    refine vn_ge (tgt := 112) hx hb (by omega) (by decide) dX2_invNttToMont_11 (by decide) (fun c_8 => absurd c_8 (by omega)) (fun _ => ?_)
    refine lv_iconst (v := nI 0) hx hb dX2_invNttToMont_14 (by decide) ?_
    refine lv_istore_n (lv' := [(1, .int (nI 0)), (0, .ref h0), (2, .int (nI (2 ^ k))), (4, .int (nI (256 / 2 ^ k)))]) hx hb dX2_invNttToMont_15 rfl hl (by decide) rfl (fun ls hl => ?_)
    have hl : lv_has ls 7 [(0, .ref h0), (1, .int (nI (2 * 2 ^ k * 0))), (2, .int (nI (2 ^ k))), (4, .int (nI (256 / 2 ^ k - 0)))] := by
      rw [Nat.mul_zero, Nat.sub_zero]
      exact lv_sub hl [1, 0, 2, 3] rfl
    have p1 : ((2 ^ k : Nat) : Int) * 8380417 ≤ 1073741823 := by
      have : 2 ^ k ≤ 2 ^ 7 := Nat.pow_le_pow_right (by decide) (by omega)
      omega
    refine inv_mid F hK hZ hR (LV_u hk) (f := g) (B := (2 ^ k : Nat) * 8380417) (by omega) p1 (fun i hi => (hI i hi).2) (fun g' H locs ls hI2 hP hD hS hl => ?_) (128 / 2 ^ k) 0 g H locs ls (Nat.zero_add _) ?_ hP hD hS hl
    · have hI := iSt_next hk hI hI2
      rw [v2] at hl
      refine lv_iload_n hx hb dX2_invNttToMont_105 rfl (lv_at hl 1 rfl) ?_
      refine lv_iconst (v := 1) hx hb dX2_invNttToMont_106 (by decide) ?_
      refine lv_ishl hx hb dX2_invNttToMont_107 ?_
      rw [pk_shlN (n := 2 ^ k) (1 &&& 31) 1 (by decide) (by omega), v1]
      refine lv_istore_n (lv' := [(2, .int (nI (2 ^ (k + 1)))), (0, .ref h0), (4, .int (nI (256 / 2 ^ (k + 1))))]) hx hb dX2_invNttToMont_108 rfl hl (by decide) rfl (fun ls hl => ?_)
      refine lv_goto (tgt := 7) hx hb dX2_invNttToMont_109 (by decide) ?_
      exact ih (k + 1) g' H locs ls (by omega) hI hP hD hS (lv_sub hl [1, 0, 2] rfl)
    · rw [Nat.mul_zero]; exact nInv_0 _ _ _ _
/-- the last loop: the first j places are brought back -/
def iFi (f g : Nat → Int32) (j : Nat) : Prop := ∀ i, i < 256 → (i < j → cg (g i).toInt (41978 * (f i).toInt * 8265825) ∧ -8380417 ≤ (g i).toInt ∧ (g i).toInt ≤ 8380417) ∧ (¬ i < j → g i = f i)
theorem m41 {x r : Int32} (hr : r = montJ (41978 * x.toInt64)) : cg r.toInt (41978 * x.toInt * 8265825) ∧ -8380417 ≤ r.toInt ∧ r.toInt ≤ 8380417 := by
  have b1 := ar_lo x
  have b2 := ar_hi x
  have z : (41978 : Int64).toInt = 41978 := by decide
  have e : (41978 * x.toInt64).toInt = 41978 * x.toInt := by
    rw [ar_mul64 (by rw [Int32.toInt_toInt64, z]; omega) (by rw [Int32.toInt_toInt64, z]; omega), Int32.toInt_toInt64, z]
  have h := mont_spec (41978 * x.toInt64) (by rw [e]; omega) (by rw [e]; omega)
  rw [e] at h
  rw [hr]
  exact h
set_option maxHeartbeats 4000000 in
set_option maxRecDepth 100000 in
theorem inv_fin (F : CallFix p m c cX2_invNttToMont 7 s args lw_all RX2) (hK : va_K (dC, dI) vwCl [(cI, .int)] s) (hR : 1 ≤ R.frames ∧ 22 ≤ R.locals) (f : Nat → Int32)
    (kk : ∀ (g : Nat → Int32) (H : Heap) (locs : List Loc) (ls : Array Slot), iFi f g 256 → va_P (dC, dI) vwCl (aW h0 cI g) H → va_D A (aW h0 cI g) → va_S A s.heap H locs → W p l e R s m args below meth c H locs 0 0 Q (F0 m 141 ls [])) :
    ∀ (d j : Nat) (g : Nat → Int32) (H : Heap) (locs : List Loc) (ls : Array Slot), j + d = 256 → iFi f g j → va_P (dC, dI) vwCl (aW h0 cI g) H → va_D A (aW h0 cI g) → va_S A s.heap H locs → lv_has ls 7 [(0, .ref h0), (3, .int (nI j))] → W p l e R s m args below meth c H locs 0 0 Q (F0 m 114 ls []) := by
  obtain ⟨hx, hb, hml, hown, hts⟩ := id F
  intro d
  induction d with
  | zero =>
    intro j g H locs ls hj hI hP hD hS hl
    have ej : j = 256 := by omega
    subst ej
    refine lv_iload_n hx hb dX2_invNttToMont_114 rfl (lv_at hl 1 rfl) ?_
    refine lv_sipush (v := nI 256) hx hb dX2_invNttToMont_115 (by decide) ?_
    refine vn_ge (tgt := 141) hx hb (by decide) (by decide) dX2_invNttToMont_118 (by decide) (fun _ => ?_) (fun c_8 => absurd c_8 (by decide))
    exact kk g H locs ls hI hP hD hS
  | succ d ih =>
    intro j g H locs ls hj hI hP hD hS hl
    refine lv_iload_n hx hb dX2_invNttToMont_114 rfl (lv_at hl 1 rfl) ?_
    refine lv_sipush (v := nI 256) hx hb dX2_invNttToMont_115 (by decide) ?_
    refine vn_ge (tgt := 141) hx hb (by omega) (by decide) dX2_invNttToMont_118 (by decide) (fun c_8 => absurd c_8 (by omega)) (fun c_8 => ?_)
    refine lv_aload_n hx hb dX2_invNttToMont_121 rfl (lv_at hl 0 rfl) ?_
    refine lv_iload_n hx hb dX2_invNttToMont_122 rfl (lv_at hl 1 rfl) ?_
    refine lv_ldc2 hx hb hown (hts _ q56) dX2_invNttToMont_123 ?_
    refine lv_aload_n hx hb dX2_invNttToMont_126 rfl (lv_at hl 0 rfl) ?_
    refine lv_iload_n hx hb dX2_invNttToMont_127 rfl (lv_at hl 1 rfl) ?_
    refine vn_iald hx hb hK hP 0 0 rfl rfl (by omega) (by decide) dX2_invNttToMont_128 ?_
    refine lv_i2l hx hb dX2_invNttToMont_129 rfl ?_
    refine lv_lmul hx hb dX2_invNttToMont_130 ?_
    refine lv_topl (fun y_131 ey_131 => ?_)
    refine vp_callSi (va_Run.run (va_runS (As := [.long y_131]) (rest := [.int (nI j), .ref h0]) ⟨hx, hb, hml, hown, hts⟩ (metX3_montgomeryReduce l y_131) (va_cwS 1 hts (lw_S q47 q48 q5 q49) rfl rfl rfl (by decide +kernel) hR) ⟨fun _ _ _ _ q => q, fun U hU hW => ⟨rfl, trivial⟩⟩ rfl rfl hl.1 rfl (lv_room (Nat.le_of_ble_eq_true rfl)) dX2_invNttToMont_131 ⟨Nat.zero_le _, Nat.zero_le _⟩)) (fun r_131 hr_131 => ?_)
    rw [ey_131] at hr_131
    have hm := m41 hr_131
    rw [(hI j c_8).2 (by omega)] at hm
    refine vn_iast hx hb hK hP hD hS 0 0 rfl rfl (by omega) (by decide) dX2_invNttToMont_134 (fun H locs hP hD hS => ?_)
    refine lv_iinc (v := nI (j + 1)) (lv' := [(3, .int (nI (j + 1))), (0, .ref h0)]) hx hb dX2_invNttToMont_135 hl (k := 1) rfl (nI_1 j) (by decide) rfl (fun ls hl => ?_)
    refine lv_goto (tgt := 114) hx hb dX2_invNttToMont_138 (by decide) ?_
    refine ih (j + 1) (upd g j r_131) H locs ls (by omega) ?_ hP hD hS (lv_sub hl [1, 0] rfl)
    intro i hi
    by_cases q : i = j
    · subst q
      rw [pk_us]
      exact ⟨fun _ => hm, fun h => absurd (Nat.lt_succ_self _) h⟩
    · rw [pk_un q]
      exact ⟨fun h => (hI i hi).1 (by omega), fun h => (hI i hi).2 (by omega)⟩
end INV
/-- what invNttToMont leaves -/
def invP (f g : Nat → Int32) : Prop := ∀ i, i < 256 → cg (g i).toInt (41978 * iv 8 (tI f) i * 8265825) ∧ -8380417 ≤ (g i).toInt ∧ (g i).toInt ≤ 8380417
set_option maxHeartbeats 4000000 in
set_option maxRecDepth 100000 in
theorem metX2_inv (l : Launch) (dC : Nat → ClassId) (dI : Nat → Nat → Nat) (cI : ClassId) (h0 t sz : Nat) (f : Nat → Int32) (hf : ∀ i, i < 256 → -8380417 ≤ (f i).toInt ∧ (f i).toInt ≤ 8380417) : Met l yX2_invNttToMont (ws_ yX2_invNttToMont cX2_invNttToMont 7 none) ({ frames := 1, cells := 0, slots := 0, locals := 22 }) (va_Pc [.ref h0] (fun U => U.heap.size = sz ∧ va_P (dC, dI) vwCl (aW h0 cI f) U.heap ∧ va_K (dC, dI) vwCl [(cI, .int)] U ∧ va_D (fun _ => True) (aW h0 cI f) ∧ gZ t (va_A (aW h0 cI f) sz) U U.heap)) (va_Qv (fun u : Nat → Int32 => invP f u) (fun u T => va_P (dC, dI) vwCl (aW h0 cI u) T.heap ∧ va_D (va_A (aW h0 cI f) sz) (aW h0 cI u)) (va_A (aW h0 cI f) sz)) 0 0 (va_A (aW h0 cI f) sz) := by

  refine Met.ofW (cc := cX2_invNttToMont) (maxL := 7) (ret := none) (by decide) rfl ?_
  intro p e s m args below meth c s₁ B hml hv
  obtain ⟨rfl, hsz, hP, hK, hD0, hZ⟩ := hv
  have hx := B.exec
  have hb := B.bytes
  have hr := B.returns
  have hts := atoms_spec (ws := ws_ yX2_invNttToMont cX2_invNttToMont 7 (none)) B.pre
  have hts : ∀ w ∈ lw_all, w.before _ s = true := fun w h => hts w (List.mem_cons_of_mem _ h)
  have hown : s.vm.findClass RX2 = some m.cls := findClass_of_methodNamed B.named
  have hlocks := B.notSynchronized
  subst hsz
  have hD := hD0.self (sz := s.heap.size)
  generalize hAe : va_A (aW h0 cI f) s.heap.size = A at hD hZ ⊢
  have hS : va_S A s.heap s.heap [] := va_S.rf
  have hl := lv_entry ([.ref h0]) (n := 7) (Nat.le_of_ble_eq_true rfl)
  rw [lg_entry_eq]
  generalize (lg_sl ([.ref h0]) ++ List.replicate (7 - (lg_sl ([.ref h0])).length) Slot.unset).toArray = ls at hl ⊢
  have hl : lv_has ls 7 [(0, .ref h0)] := hl
  refine lv_sipush (v := nI 256) hx hb dX2_invNttToMont_0 (by decide) ?_
  refine lv_istore (lv' := [(4, .int (nI 256)), (0, .ref h0)]) hx hb dX2_invNttToMont_3 hl (by decide) rfl (fun ls hl => ?_)
  refine lv_iconst (v := nI 1) hx hb dX2_invNttToMont_5 (by decide) ?_
  refine lv_istore_n (lv' := [(2, .int (nI 1)), (4, .int (nI 256)), (0, .ref h0)]) hx hb dX2_invNttToMont_6 rfl hl (by decide) rfl (fun ls hl => ?_)
  refine inv_out ⟨hx, hb, hml, hown, hts⟩ hK hZ ⟨Nat.le_of_ble_eq_true rfl, Nat.le_of_ble_eq_true rfl⟩ f (fun g H locs ls hI hP hD hS hl => ?_) 8 0 f s.heap [] ls rfl (fun i hi => ⟨cg.rf _, ?_⟩) hP hD hS (lv_sub hl [2, 0, 1] rfl)
  · refine lv_iconst (v := nI 0) hx hb dX2_invNttToMont_112 (by decide) ?_
    refine lv_istore_n (lv' := [(3, .int (nI 0)), (0, .ref h0)]) hx hb dX2_invNttToMont_113 rfl hl (by decide) rfl (fun ls hl => ?_)
    refine inv_fin ⟨hx, hb, hml, hown, hts⟩ hK ⟨Nat.le_of_ble_eq_true rfl, Nat.le_of_ble_eq_true rfl⟩ g (fun u H locs ls hI2 hP hD hS => ?_) 256 0 g H locs ls rfl (fun i hi => ⟨fun h => absurd h (Nat.not_lt_zero _), fun _ => rfl⟩) hP hD hS (lv_sub hl [1, 0] rfl)
    refine W.vret hx hb hr (fun T hT hW => ⟨⟨u, rfl, fun i hi => ?_, by rw [hT]; exact hP, hD⟩, hS.F hT⟩) hS.2.2 dX2_invNttToMont_141
    obtain ⟨a1, a2⟩ := (hI2 i hi).1 hi
    exact ⟨a1.tr (cg.mr _ (cg.ml _ (hI i hi).1)), a2⟩
  · have h := hf i hi
    omega
end
section
/-! the world of a ring: the object, its file of four rows, the rows (own) -/
abbrev gW (ci o g : Nat) (cG cI : ClassId) (ad : Nat → Nat) (M : Nat → Nat → Int32) (tl : va_W) : va_W := (o, .inr (ci, [.ref g])) :: (g, .inl (cG, 4, .inr (.inr (.inr (.inr (fun i => some (ad i))))))) :: (ad 0, .inl (cI, 256, .inl (M 0))) :: (ad 1, .inl (cI, 256, .inl (M 1))) :: (ad 2, .inl (cI, 256, .inl (M 2))) :: (ad 3, .inl (cI, 256, .inl (M 3))) :: tl
def j3 (r : Int32) : Nat := (r &&& 3).toNatClampNeg
def j255 (r : Int32) : Nat := (r &&& 255).toNatClampNeg
theorem in3 (r : Int32) : vp_in (r &&& 3) 4 := pk_andIn r 2 (by decide) (by decide)
theorem in255 (r : Int32) : vp_in (r &&& 255) 256 := pk_andIn r 8 (by decide) (by decide)
theorem j3_lt (r : Int32) : j3 r < 4 := Nat.not_le.mp fun q => in3 r (Or.inr q)
theorem j255_lt (r : Int32) : j255 r < 256 := Nat.not_le.mp fun q => in255 r (Or.inr q)
theorem gW_row {ci o g : Nat} {cG cI : ClassId} {ad : Nat → Nat} {M : Nat → Nat → Int32} {tl : va_W} {j : Nat} (hj : j < 4) : (gW ci o g cG cI ad M tl)[2 + j]? = some (ad j, .inl (cI, 256, .inl (M j))) := by
  rcases (show j = 0 ∨ j = 1 ∨ j = 2 ∨ j = 3 by omega) with h | h | h | h <;> subst h <;> rfl
theorem gW_set {ci o g : Nat} {cG cI : ClassId} {ad : Nat → Nat} {M : Nat → Nat → Int32} {tl : va_W} {j : Nat} (hj : j < 4) (x : Nat → Int32) : (gW ci o g cG cI ad M tl).set (2 + j) (ad j, .inl (cI, 256, .inl x)) = gW ci o g cG cI ad (va_up M j x) tl := by
  rcases (show j = 0 ∨ j = 1 ∨ j = 2 ∨ j = 3 by omega) with h | h | h | h <;> subst h <;> rfl
theorem gW_rows (ad : Nat → Nat) (j z : Nat) : va_up (fun i => some (ad i)) j (some z) = fun i => some (va_up ad j z i) := by
  funext i
  unfold va_up
  split <;> rfl
theorem gW_swapP {D : va_G} {cl : List vw_C} {ci o g : Nat} {cG cI : ClassId} {ad : Nat → Nat} {M : Nat → Nat → Int32} {j z : Nat} {w : Nat → Int32} {H : Heap} (hj : j < 4) (h : va_P D cl ((gW ci o g cG cI ad M [(z, .inl (cI, 256, .inl w))]).set 1 (g, .inl (cG, 4, .inr (.inr (.inr (.inr (va_up (fun i => some (ad i)) j (some z)))))))) H) : va_P D cl (gW ci o g cG cI (va_up ad j z) (va_up M j w) []) H := by
  rw [gW_rows] at h
  rcases (show j = 0 ∨ j = 1 ∨ j = 2 ∨ j = 3 by omega) with e | e | e | e <;> subst e
  · exact h.sub [0, 1, 6, 3, 4, 5] rfl
  · exact h.sub [0, 1, 2, 6, 4, 5] rfl
  · exact h.sub [0, 1, 2, 3, 6, 5] rfl
  · exact h.sub [0, 1, 2, 3, 4, 6] rfl
theorem gW_swapD {A : Nat → Prop} {ci o g : Nat} {cG cI : ClassId} {ad : Nat → Nat} {M : Nat → Nat → Int32} {j z : Nat} {w : Nat → Int32} (hj : j < 4) (h : va_D A ((gW ci o g cG cI ad M [(z, .inl (cI, 256, .inl w))]).set 1 (g, .inl (cG, 4, .inr (.inr (.inr (.inr (va_up (fun i => some (ad i)) j (some z)))))))))  : va_D A (gW ci o g cG cI (va_up ad j z) (va_up M j w) []) := by
  rw [gW_rows] at h
  rcases (show j = 0 ∨ j = 1 ∨ j = 2 ∨ j = 3 by omega) with e | e | e | e <;> subst e
  · exact h.sub [0, 1, 6, 3, 4, 5] (by decide) rfl
  · exact h.sub [0, 1, 2, 6, 4, 5] (by decide) rfl
  · exact h.sub [0, 1, 2, 3, 6, 5] (by decide) rfl
  · exact h.sub [0, 1, 2, 3, 4, 6] (by decide) rfl
/-- a method's start over a ring -/
def gPre (dC : Nat → ClassId) (dI : Nat → Nat → Nat) (ci o g : Nat) (cG cI : ClassId) (ad : Nat → Nat) (M : Nat → Nat → Int32) (sz : Nat) (U : State) : Prop := U.heap.size = sz ∧ va_P (dC, dI) vwCl (gW ci o g cG cI ad M []) U.heap ∧ gK (dC, dI) vwCl cG cI U ∧ va_D (fun _ => True) (gW ci o g cG cI ad M [])
/-- its end -/
def gPos (dC : Nat → ClassId) (dI : Nat → Nat → Nat) (ci o g : Nat) (cG cI : ClassId) (A : Nat → Prop) (u : (Nat → Nat) × (Nat → Nat → Int32)) (T : State) : Prop := va_P (dC, dI) vwCl (gW ci o g cG cI u.1 u.2 []) T.heap ∧ va_D A (gW ci o g cG cI u.1 u.2 [])
theorem gPre.blind {dC : Nat → ClassId} {dI : Nat → Nat → Nat} {ci o g : Nat} {cG cI : ClassId} {ad : Nat → Nat} {M : Nat → Nat → Int32} {sz : Nat} {U V : State} (h1 : V.heap = U.heap) (h2 : U.vm.Alike V.vm) (h : gPre dC dI ci o g cG cI ad M sz U) : gPre dC dI ci o g cG cI ad M sz V := by
  obtain ⟨a, b, c, d⟩ := h
  exact ⟨by rw [h1]; exact a, by rw [h1]; exact b, c.moved h2, d⟩
/-- what put and spread leave -/
def putS (M : Nat → Nat → Int32) (r k v : Int32) : Nat → Nat → Int32 := va_up M (j3 r) (upd (M (j3 r)) (j255 k) (fairJ v))
def sprF (a b : Int32) : Nat → Int32 := fun i => fairJ (a + nI i * b)
def sprS (M : Nat → Nat → Int32) (r a b : Int32) (i : Nat) : Nat → Nat → Int32 := va_up M (j3 r) (fa_fill (sprF a b) (M (j3 r)) i)
theorem va_up2 {α : Type} (f : Nat → α) (k : Nat) (v w : α) : va_up (va_up f k v) k w = va_up f k w := bx_uu f k v w
theorem va_upS {α : Type} (f : Nat → α) (k : Nat) (v : α) : va_up f k v k = v := if_pos rfl
theorem sprS_0 (M : Nat → Nat → Int32) (r a b : Int32) : sprS M r a b 0 = M := by
  funext i
  unfold sprS
  rw [fa_fill_0]
  unfold va_up
  split
  · rename_i h; rw [h]
  · rfl
theorem sprS_s (M : Nat → Nat → Int32) (r a b : Int32) (i : Nat) : va_up (sprS M r a b i) (j3 r) (upd (sprS M r a b i (j3 r)) i (fairJ (a + nI i * b))) = sprS M r a b (i + 1) := by
  unfold sprS
  rw [va_up2, va_upS]
  congr 1
  exact fa_fill_succ (sprF a b) _ _
/-- rows in range -/
def gOk (M : Nat → Nat → Int32) : Prop := ∀ i, i < 4 → ∀ k, k < 256 → 0 ≤ (M i k).toInt ∧ (M i k).toInt < 8380417
/-- what add leaves in the row, of the first i places -/
def addP (M : Nat → Nat → Int32) (r p : Int32) (w : Nat → Int32) (i : Nat) : Prop := ∀ k, k < i → (w k).toInt = ((M (j3 r) k).toInt + (M (j3 p) k).toInt) % 8380417
theorem addP_s {M : Nat → Nat → Int32} {r p : Int32} {w : Nat → Int32} {i : Nat} {x : Int32} (h : addP M r p w i) (hx : x.toInt = ((M (j3 r) i).toInt + (M (j3 p) i).toInt) % 8380417) : addP M r p (upd w i x) (i + 1) := by
  intro k hk
  by_cases q : k = i
  · subst q; rw [pk_us]; exact hx
  · rw [pk_un q]; exact h k (by omega)
theorem gadd {x y : Int32} (h1 : 0 ≤ x.toInt ∧ x.toInt < 8380417) (h2 : 0 ≤ y.toInt ∧ y.toInt < 8380417) : (x + y).toInt = x.toInt + y.toInt := ar_add (by omega) (by omega)
/-- what multiply leaves in the row -/
def mulP (M : Nat → Nat → Int32) (p q : Int32) (w : Nat → Int32) : Prop := ∀ i, i < 256 → 0 ≤ (w i).toInt ∧ (w i).toInt < 8380417 ∧ cg (w i).toInt (mulS (tI (M (j3 p))) (tI (M (j3 q))) i)
end
section
/-! contracts of HintRing: coefficient, put, spread, add, the constructor (printed by gen/g17.py) -/
set_option maxHeartbeats 4000000 in
set_option maxRecDepth 100000 in
theorem metX0_coefficient (l : Launch) (dC : Nat → ClassId) (dI : Nat → Nat → Nat) (o g : Nat) (cG cI : ClassId) (ad : Nat → Nat) (M : Nat → Nat → Int32) (sz : Nat) (a b : Int32) : Met l yX0_coefficient (ws_ yX0_coefficient cX0_coefficient 3 (some .int)) ({ frames := 0, cells := 0, slots := 0, locals := 0 }) (va_Pc [.ref o, .int a, .int b] (fun U => gPre dC dI 0 o g cG cI ad M sz U)) (vp_Si (fun r => r = M (j3 a) (j255 b))) 0 0 (fun _ => False) := by

  refine Met.ofW (cc := cX0_coefficient) (maxL := 3) (ret := some .int) (by decide) rfl ?_
  intro p e s m args below meth c s₁ B hml hv
  obtain ⟨rfl, hsz, hP, hK, hD0⟩ := hv
  have hx := B.exec
  have hb := B.bytes
  have hr := B.returns
  have hts := atoms_spec (ws := ws_ yX0_coefficient cX0_coefficient 3 (some .int)) B.pre
  have hts : ∀ w ∈ lw_all, w.before _ s = true := fun w h => hts w (List.mem_cons_of_mem _ h)
  have hown : s.vm.findClass RX0 = some m.cls := findClass_of_methodNamed B.named
  have hlocks := B.notSynchronized
  have hl := lv_entry ([.ref o, .int a, .int b]) (n := 3) (Nat.le_of_ble_eq_true rfl)
  rw [lg_entry_eq]
  generalize (lg_sl ([.ref o, .int a, .int b]) ++ List.replicate (3 - (lg_sl ([.ref o, .int a, .int b])).length) Slot.unset).toArray = ls at hl ⊢
  have hl : lv_has ls 3 [(0, .ref o), (1, .int a), (2, .int b)] := hl
  refine lv_aload_n hx hb dX0_coefficient_0 rfl (lv_at hl 0 rfl) ?_
  refine va_get (D := (dC, dI)) (ci := 0) (v := .ref g) (C := RX0) (T := TX0) (N := 1) hx hb hts in_X0 hown hK.1 hP 0 rfl rfl 0 (by decide) (hts _ q20) (fun _ h9 => h9) rfl dX0_coefficient_1 ?_
  refine lv_iload_n hx hb dX0_coefficient_4 rfl (lv_at hl 1 rfl) ?_
  refine lv_iconst (v := 3) hx hb dX0_coefficient_5 (by decide) ?_
  refine lv_iand hx hb dX0_coefficient_6 ?_
  refine vg_ald (y := ad (j3 a)) hx hb hK.1 hP 1 1 rfl rfl (in3 a) rfl dX0_coefficient_7 ?_
  refine lv_iload_n hx hb dX0_coefficient_8 rfl (lv_at hl 2 rfl) ?_
  refine lv_sipush (v := 255) hx hb dX0_coefficient_9 (by decide) ?_
  refine lv_iand hx hb dX0_coefficient_12 ?_
  refine va_iald hx hb hK.1 hP (2 + j3 a) 0 (gW_row (j3_lt a)) rfl (in255 b) dX0_coefficient_13 ?_
  exact W.iret hx hb hr (fun t ht hW => ⟨_, rfl, rfl, ht⟩) (fun q h => by cases h) dX0_coefficient_14
set_option maxHeartbeats 4000000 in
set_option maxRecDepth 100000 in
theorem metX0_put (l : Launch) (dC : Nat → ClassId) (dI : Nat → Nat → Nat) (o g : Nat) (cG cI : ClassId) (ad : Nat → Nat) (M : Nat → Nat → Int32) (sz : Nat) (a b v : Int32) : Met l yX0_put (ws_ yX0_put cX0_put 4 (none)) ({ frames := 1, cells := 0, slots := 0, locals := 20 }) (va_Pc [.ref o, .int a, .int b, .int v] (fun U => gPre dC dI 0 o g cG cI ad M sz U)) (va_Qv (fun u : (Nat → Nat) × (Nat → Nat → Int32) => u.2 = putS M a b v) (gPos dC dI 0 o g cG cI (va_A (gW 0 o g cG cI ad M []) sz)) (va_A (gW 0 o g cG cI ad M []) sz)) 0 0 (va_A (gW 0 o g cG cI ad M []) sz) := by

  refine Met.ofW (cc := cX0_put) (maxL := 4) (ret := none) (by decide) rfl ?_
  intro p e s m args below meth c s₁ B hml hv
  obtain ⟨rfl, hsz, hP, hK, hD0⟩ := hv
  have hx := B.exec
  have hb := B.bytes
  have hr := B.returns
  have hts := atoms_spec (ws := ws_ yX0_put cX0_put 4 (none)) B.pre
  have hts : ∀ w ∈ lw_all, w.before _ s = true := fun w h => hts w (List.mem_cons_of_mem _ h)
  have hown : s.vm.findClass RX0 = some m.cls := findClass_of_methodNamed B.named
  have hlocks := B.notSynchronized
  subst hsz
  have hD := hD0.self (sz := s.heap.size)
  generalize hAe : va_A (gW 0 o g cG cI ad M []) s.heap.size = A at hD ⊢
  have hA : ∀ q : Nat, s.heap.size ≤ q → A q := fun q h => by rw [← hAe]; exact Or.inr h
  have hS : va_S A s.heap s.heap [] := va_S.rf
  have hl := lv_entry ([.ref o, .int a, .int b, .int v]) (n := 4) (Nat.le_of_ble_eq_true rfl)
  rw [lg_entry_eq]
  generalize (lg_sl ([.ref o, .int a, .int b, .int v]) ++ List.replicate (4 - (lg_sl ([.ref o, .int a, .int b, .int v])).length) Slot.unset).toArray = ls at hl ⊢
  have hl : lv_has ls 4 [(0, .ref o), (1, .int a), (2, .int b), (3, .int v)] := hl
  refine lv_aload_n hx hb dX0_put_0 rfl (lv_at hl 0 rfl) ?_
  refine va_get (D := (dC, dI)) (ci := 0) (v := .ref g) (C := RX0) (T := TX0) (N := 1) hx hb hts in_X0 hown hK.1 hP 0 rfl rfl 0 (by decide) (hts _ q20) (fun _ h9 => h9) rfl dX0_put_1 ?_
  refine lv_iload_n hx hb dX0_put_4 rfl (lv_at hl 1 rfl) ?_
  refine lv_iconst (v := 3) hx hb dX0_put_5 (by decide) ?_
  refine lv_iand hx hb dX0_put_6 ?_
  refine vg_ald (y := ad (j3 a)) hx hb hK.1 hP 1 1 rfl rfl (in3 a) rfl dX0_put_7 ?_
  refine lv_iload_n hx hb dX0_put_8 rfl (lv_at hl 2 rfl) ?_
  refine lv_sipush (v := 255) hx hb dX0_put_9 (by decide) ?_
  refine lv_iand hx hb dX0_put_12 ?_
  refine lv_iload_n hx hb dX0_put_13 rfl (lv_at hl 3 rfl) ?_
  refine vp_callSi (va_Run.run (va_runS (As := [.int v]) (rest := [.int (b &&& 255), .ref (ad (j3 a))]) ⟨hx, hb, hml, hown, hts⟩ (metX0_fair l v) (va_cwS 1 hts (lw_S q29 q30 q2 q31) rfl rfl rfl (by decide +kernel) ⟨Nat.le_of_ble_eq_true rfl, Nat.le_of_ble_eq_true rfl⟩) ⟨fun _ _ _ _ q => q, fun U hU hW => ⟨rfl, trivial⟩⟩ rfl rfl hl.1 rfl (lv_room (Nat.le_of_ble_eq_true rfl)) dX0_put_14 ⟨Nat.le_of_ble_eq_true rfl, Nat.le_of_ble_eq_true rfl⟩)) (fun r_14 hr_14 => ?_)
  subst hr_14
  refine va_iast (x := fairJ v) hx hb hK.1 hP hD hS (2 + j3 a) 0 (gW_row (j3_lt a)) rfl (in255 b) dX0_put_17 (fun H locs hP hD hS => ?_)
  rw [gW_set (j3_lt a)] at hP hD
  exact W.vret hx hb hr (fun T hT hW => ⟨⟨(ad, putS M a b v), rfl, rfl, by rw [hT]; exact hP, hD⟩, hS.F hT⟩) hS.2.2 dX0_put_18
section SPRX0
variable {p : Program} {l : Launch} {e : Env} {R : Room} {s : State} {m : MethodId} {args : Array Value} {below : List Frame} {meth : Method} {c : Code} {Q : State → Prop} {dC : Nat → ClassId} {dI : Nat → Nat → Nat} {A : Nat → Prop} {o g t : Nat} {cG cI : ClassId}
set_option maxHeartbeats 4000000 in
set_option maxRecDepth 100000 in
theorem spr_X0 (F : CallFix p m c cX0_spread 5 s args lw_all RX0) (hK : gK (dC, dI) vwCl cG cI s) (hR : 1 ≤ R.frames ∧ 20 ≤ R.locals) {ad : Nat → Nat} {M : Nat → Nat → Int32} {a b v : Int32}
    (kk : ∀ (H : Heap) (locs : List Loc) (ls : Array Slot), va_P (dC, dI) vwCl (gW 0 o g cG cI ad (sprS M a b v 256) []) H → va_D A (gW 0 o g cG cI ad (sprS M a b v 256) []) → va_S A s.heap H locs → W p l e R s m args below meth c H locs 0 0 Q (F0 m 37 ls [])) :
    ∀ (d i : Nat) (H : Heap) (locs : List Loc) (ls : Array Slot), i + d = 256 → va_P (dC, dI) vwCl (gW 0 o g cG cI ad (sprS M a b v i) []) H → va_D A (gW 0 o g cG cI ad (sprS M a b v i) []) → va_S A s.heap H locs → lv_has ls 5 [(0, .ref o), (1, .int a), (2, .int b), (3, .int v), (4, .int (nI i))] → W p l e R s m args below meth c H locs 0 0 Q (F0 m 3 ls []) := by
  obtain ⟨hx, hb, hml, hown, hts⟩ := id F
  intro d
  induction d with
  | zero =>
    intro i H locs ls hj hP hD hS hl
    have ej : i = 256 := by omega
    subst ej
    refine lv_iload hx hb dX0_spread_3 (lv_at hl 4 rfl) ?_
    refine lv_sipush (v := nI 256) hx hb dX0_spread_5 (by decide) ?_
    refine vn_ge (tgt := 37) hx hb (by decide) (by decide) dX0_spread_8 (by decide) (fun _ => ?_) (fun c_8 => absurd c_8 (by decide))
    exact kk H locs ls hP hD hS
  | succ d ih =>
    intro i H locs ls hj hP hD hS hl
    refine lv_iload hx hb dX0_spread_3 (lv_at hl 4 rfl) ?_
    refine lv_sipush (v := nI 256) hx hb dX0_spread_5 (by decide) ?_
    refine vn_ge (tgt := 37) hx hb (by omega) (by decide) dX0_spread_8 (by decide) (fun c_8 => absurd c_8 (by omega)) (fun c_8 => ?_)
    refine lv_aload_n hx hb dX0_spread_11 rfl (lv_at hl 0 rfl) ?_
    refine va_get (D := (dC, dI)) (ci := 0) (v := .ref g) (C := RX0) (T := TX0) (N := 1) hx hb hts in_X0 hown hK.1 hP 0 rfl rfl 0 (by decide) (hts _ q20) (fun _ h9 => h9) rfl dX0_spread_12 ?_
    refine lv_iload_n hx hb dX0_spread_15 rfl (lv_at hl 1 rfl) ?_
    refine lv_iconst (v := 3) hx hb dX0_spread_16 (by decide) ?_
    refine lv_iand hx hb dX0_spread_17 ?_
    refine vg_ald (y := ad (j3 a)) hx hb hK.1 hP 1 1 rfl rfl (in3 a) rfl dX0_spread_18 ?_
    refine lv_iload hx hb dX0_spread_19 (lv_at hl 4 rfl) ?_
    refine lv_iload_n hx hb dX0_spread_21 rfl (lv_at hl 2 rfl) ?_
    refine lv_iload hx hb dX0_spread_22 (lv_at hl 4 rfl) ?_
    refine lv_iload_n hx hb dX0_spread_24 rfl (lv_at hl 3 rfl) ?_
    refine lv_imul hx hb dX0_spread_25 ?_
    refine lv_iadd hx hb dX0_spread_26 ?_
    refine lv_topi (fun y_27 ey_27 => ?_)
    refine vp_callSi (va_Run.run (va_runS (As := [.int y_27]) (rest := [.int (nI i), .ref (ad (j3 a))]) ⟨hx, hb, hml, hown, hts⟩ (metX0_fair l y_27) (va_cwS 1 hts (lw_S q29 q30 q2 q31) rfl rfl rfl (by decide +kernel) hR) ⟨fun _ _ _ _ q => q, fun U hU hW => ⟨rfl, trivial⟩⟩ rfl rfl hl.1 rfl (lv_room (Nat.le_of_ble_eq_true rfl)) dX0_spread_27 ⟨Nat.zero_le _, Nat.zero_le _⟩)) (fun r_27 hr_27 => ?_)
    subst hr_27
    subst ey_27
    refine vn_iast (x := fairJ (b + nI i * v)) hx hb hK.1 hP hD hS (2 + j3 a) 0 (gW_row (j3_lt a)) rfl c_8 (by decide) dX0_spread_30 (fun H locs hP hD hS => ?_)
    rw [gW_set (j3_lt a), sprS_s] at hP hD
    refine lv_iinc (v := nI (i + 1)) (lv' := [(4, .int (nI (i + 1))), (0, .ref o), (1, .int a), (2, .int b), (3, .int v)]) hx hb dX0_spread_31 hl (k := 4) rfl (nI_1 i) (by decide) rfl (fun ls hl => ?_)
    refine lv_goto (tgt := 3) hx hb dX0_spread_34 (by decide) ?_
    exact ih (i + 1) H locs ls (by omega) hP hD hS (lv_sub hl [1, 2, 3, 4, 0] rfl)
end SPRX0
set_option maxHeartbeats 4000000 in
set_option maxRecDepth 100000 in
theorem metX0_spread (l : Launch) (dC : Nat → ClassId) (dI : Nat → Nat → Nat) (o g : Nat) (cG cI : ClassId) (ad : Nat → Nat) (M : Nat → Nat → Int32) (sz : Nat) (a b v : Int32) : Met l yX0_spread (ws_ yX0_spread cX0_spread 5 (none)) ({ frames := 1, cells := 0, slots := 0, locals := 20 }) (va_Pc [.ref o, .int a, .int b, .int v] (fun U => gPre dC dI 0 o g cG cI ad M sz U)) (va_Qv (fun u : (Nat → Nat) × (Nat → Nat → Int32) => u.2 = sprS M a b v 256) (gPos dC dI 0 o g cG cI (va_A (gW 0 o g cG cI ad M []) sz)) (va_A (gW 0 o g cG cI ad M []) sz)) 0 0 (va_A (gW 0 o g cG cI ad M []) sz) := by

  refine Met.ofW (cc := cX0_spread) (maxL := 5) (ret := none) (by decide) rfl ?_
  intro p e s m args below meth c s₁ B hml hv
  obtain ⟨rfl, hsz, hP, hK, hD0⟩ := hv
  have hx := B.exec
  have hb := B.bytes
  have hr := B.returns
  have hts := atoms_spec (ws := ws_ yX0_spread cX0_spread 5 (none)) B.pre
  have hts : ∀ w ∈ lw_all, w.before _ s = true := fun w h => hts w (List.mem_cons_of_mem _ h)
  have hown : s.vm.findClass RX0 = some m.cls := findClass_of_methodNamed B.named
  have hlocks := B.notSynchronized
  subst hsz
  have hD := hD0.self (sz := s.heap.size)
  generalize hAe : va_A (gW 0 o g cG cI ad M []) s.heap.size = A at hD ⊢
  have hA : ∀ q : Nat, s.heap.size ≤ q → A q := fun q h => by rw [← hAe]; exact Or.inr h
  have hS : va_S A s.heap s.heap [] := va_S.rf
  have hl := lv_entry ([.ref o, .int a, .int b, .int v]) (n := 5) (Nat.le_of_ble_eq_true rfl)
  rw [lg_entry_eq]
  generalize (lg_sl ([.ref o, .int a, .int b, .int v]) ++ List.replicate (5 - (lg_sl ([.ref o, .int a, .int b, .int v])).length) Slot.unset).toArray = ls at hl ⊢
  have hl : lv_has ls 5 [(0, .ref o), (1, .int a), (2, .int b), (3, .int v)] := hl
  refine lv_iconst (v := nI 0) hx hb dX0_spread_0 (by decide) ?_
  refine lv_istore (lv' := [(4, .int (nI 0)), (0, .ref o), (1, .int a), (2, .int b), (3, .int v)]) hx hb dX0_spread_1 hl (by decide) rfl (fun ls hl => ?_)
  refine spr_X0 ⟨hx, hb, hml, hown, hts⟩ hK ⟨Nat.le_of_ble_eq_true rfl, Nat.le_of_ble_eq_true rfl⟩ (fun H locs ls hP hD hS => ?_) 256 0 s.heap [] ls rfl (by rw [sprS_0]; exact hP) (by rw [sprS_0]; exact hD) hS (lv_sub hl [1, 2, 3, 4, 0] rfl)
  exact W.vret hx hb hr (fun T hT hW => ⟨⟨(ad, sprS M a b v 256), rfl, rfl, by rw [hT]; exact hP, hD⟩, hS.F hT⟩) hS.2.2 dX0_spread_37
section ADDX0
variable {p : Program} {l : Launch} {e : Env} {R : Room} {s : State} {m : MethodId} {args : Array Value} {below : List Frame} {meth : Method} {c : Code} {Q : State → Prop} {dC : Nat → ClassId} {dI : Nat → Nat → Nat} {A : Nat → Prop} {o g t : Nat} {cG cI : ClassId}
set_option maxHeartbeats 4000000 in
set_option maxRecDepth 100000 in
theorem add_X0 (F : CallFix p m c cX0_add 5 s args lw_all RX0) (hK : gK (dC, dI) vwCl cG cI s) (hR : 2 ≤ R.frames ∧ 41 ≤ R.locals) (hR2 : 1 ≤ R.cells ∧ 256 ≤ R.slots) {ad : Nat → Nat} {M : Nat → Nat → Int32} (hM : gOk M) {a b : Int32} {z : Nat}
    (kk : ∀ (w : Nat → Int32) (H : Heap) (locs : List Loc) (ls : Array Slot), addP M a b w 256 → va_P (dC, dI) vwCl (gW 0 o g cG cI ad (M) [(z, .inl (cI, 256, .inl w))]) H → va_D A (gW 0 o g cG cI ad (M) [(z, .inl (cI, 256, .inl w))]) → va_S A s.heap H locs → lv_has ls 5 [(0, .ref o), (1, .int a), (2, .int b), (3, .ref z)] → W p l e R s m args below meth c H locs 1 256 Q (F0 m 53 ls [])) :
    ∀ (d i : Nat) (w : Nat → Int32) (H : Heap) (locs : List Loc) (ls : Array Slot), i + d = 256 → addP M a b w i → va_P (dC, dI) vwCl (gW 0 o g cG cI ad (M) [(z, .inl (cI, 256, .inl w))]) H → va_D A (gW 0 o g cG cI ad (M) [(z, .inl (cI, 256, .inl w))]) → va_S A s.heap H locs → lv_has ls 5 [(0, .ref o), (1, .int a), (2, .int b), (3, .ref z), (4, .int (nI i))] → W p l e R s m args below meth c H locs 1 256 Q (F0 m 9 ls []) := by
  obtain ⟨hx, hb, hml, hown, hts⟩ := id F
  intro d
  induction d with
  | zero =>
    intro i w H locs ls hj hI hP hD hS hl
    have ej : i = 256 := by omega
    subst ej
    refine lv_iload hx hb dX0_add_9 (lv_at hl 4 rfl) ?_
    refine lv_sipush (v := nI 256) hx hb dX0_add_11 (by decide) ?_
    refine vn_ge (tgt := 53) hx hb (by decide) (by decide) dX0_add_14 (by decide) (fun _ => ?_) (fun c_8 => absurd c_8 (by decide))
    exact kk w H locs ls hI hP hD hS (lv_sub hl [0, 1, 2, 3] rfl)
  | succ d ih =>
    intro i w H locs ls hj hI hP hD hS hl
    refine lv_iload hx hb dX0_add_9 (lv_at hl 4 rfl) ?_
    refine lv_sipush (v := nI 256) hx hb dX0_add_11 (by decide) ?_
    refine vn_ge (tgt := 53) hx hb (by omega) (by decide) dX0_add_14 (by decide) (fun c_8 => absurd c_8 (by omega)) (fun c_8 => ?_)
    refine lv_aload_n hx hb dX0_add_17 rfl (lv_at hl 3 rfl) ?_
    refine lv_iload hx hb dX0_add_18 (lv_at hl 4 rfl) ?_
    refine lv_aload_n hx hb dX0_add_20 rfl (lv_at hl 0 rfl) ?_
    refine va_get (D := (dC, dI)) (ci := 0) (v := .ref g) (C := RX0) (T := TX0) (N := 1) hx hb hts in_X0 hown hK.1 hP 0 rfl rfl 0 (by decide) (hts _ q20) (fun _ h9 => h9) rfl dX0_add_21 ?_
    refine lv_iload_n hx hb dX0_add_24 rfl (lv_at hl 1 rfl) ?_
    refine lv_iconst (v := 3) hx hb dX0_add_25 (by decide) ?_
    refine lv_iand hx hb dX0_add_26 ?_
    refine vg_ald (y := ad (j3 a)) hx hb hK.1 hP 1 1 rfl rfl (in3 a) rfl dX0_add_27 ?_
    refine lv_iload hx hb dX0_add_28 (lv_at hl 4 rfl) ?_
    refine vn_iald hx hb hK.1 hP (2 + j3 a) 0 (gW_row (j3_lt a)) rfl c_8 (by decide) dX0_add_30 ?_
    refine lv_aload_n hx hb dX0_add_31 rfl (lv_at hl 0 rfl) ?_
    refine va_get (D := (dC, dI)) (ci := 0) (v := .ref g) (C := RX0) (T := TX0) (N := 1) hx hb hts in_X0 hown hK.1 hP 0 rfl rfl 0 (by decide) (hts _ q20) (fun _ h9 => h9) rfl dX0_add_32 ?_
    refine lv_iload_n hx hb dX0_add_35 rfl (lv_at hl 2 rfl) ?_
    refine lv_iconst (v := 3) hx hb dX0_add_36 (by decide) ?_
    refine lv_iand hx hb dX0_add_37 ?_
    refine vg_ald (y := ad (j3 b)) hx hb hK.1 hP 1 1 rfl rfl (in3 b) rfl dX0_add_38 ?_
    refine lv_iload hx hb dX0_add_39 (lv_at hl 4 rfl) ?_
    refine vn_iald hx hb hK.1 hP (2 + j3 b) 0 (gW_row (j3_lt b)) rfl c_8 (by decide) dX0_add_41 ?_
    refine lv_iadd hx hb dX0_add_42 ?_
    have m1 := hM (j3 a) (j3_lt a) i c_8
    have m2 := hM (j3 b) (j3_lt b) i c_8
    have e1 := gadd m1 m2
    refine lv_topi (fun y_43 ey_43 => ?_)
    refine vp_callSi (va_Run.run (va_runS (As := [.int y_43]) (rest := [.int (nI i), .ref z]) ⟨hx, hb, hml, hown, hts⟩ (metX0_whole l y_43) (va_cwS 1 hts (lw_S q57 q58 q2 q59) rfl rfl rfl (by decide +kernel) hR) ⟨fun _ _ _ _ q => q, fun U hU hW => ⟨rfl, trivial⟩⟩ rfl rfl hl.1 rfl (lv_room (Nat.le_of_ble_eq_true rfl)) dX0_add_43 hR2)) (fun r_43 hr_43 => ?_)
    have e2 : r_43.toInt = ((M (j3 a) i).toInt + (M (j3 b) i).toInt) % 8380417 := by rw [hr_43, ey_43, whole_spec _ (by rw [e1]; omega), e1]
    refine vn_iast hx hb hK.1 hP hD hS 6 0 rfl rfl c_8 (by decide) dX0_add_46 (fun H locs hP hD hS => ?_)
    refine lv_iinc (v := nI (i + 1)) (lv' := [(4, .int (nI (i + 1))), (0, .ref o), (1, .int a), (2, .int b), (3, .ref z)]) hx hb dX0_add_47 hl (k := 4) rfl (nI_1 i) (by decide) rfl (fun ls hl => ?_)
    refine lv_goto (tgt := 9) hx hb dX0_add_50 (by decide) ?_
    exact ih (i + 1) (upd w i r_43) H locs ls (by omega) (addP_s hI e2) hP hD hS (lv_sub hl [1, 2, 3, 4, 0] rfl)
end ADDX0
set_option maxHeartbeats 4000000 in
set_option maxRecDepth 100000 in
theorem metX0_add (l : Launch) (dC : Nat → ClassId) (dI : Nat → Nat → Nat) (o g : Nat) (cG cI : ClassId) (ad : Nat → Nat) (M : Nat → Nat → Int32) (sz : Nat) (hM : gOk M) (a b : Int32) : Met l yX0_add (ws_ yX0_add cX0_add 5 (none)) ({ frames := 2, cells := 1, slots := 256, locals := 41 }) (va_Pc [.ref o, .int a, .int b] (fun U => gPre dC dI 0 o g cG cI ad M sz U)) (va_Qv (fun u : (Nat → Nat) × (Nat → Nat → Int32) => ∃ w, u.2 = va_up M (j3 a) w ∧ addP M a b w 256) (gPos dC dI 0 o g cG cI (va_A (gW 0 o g cG cI ad M []) sz)) (va_A (gW 0 o g cG cI ad M []) sz)) 1 256 (va_A (gW 0 o g cG cI ad M []) sz) := by

  refine Met.ofW (cc := cX0_add) (maxL := 5) (ret := none) (by decide) rfl ?_
  intro p e s m args below meth c s₁ B hml hv
  obtain ⟨rfl, hsz, hP, hK, hD0⟩ := hv
  have hx := B.exec
  have hb := B.bytes
  have hr := B.returns
  have hts := atoms_spec (ws := ws_ yX0_add cX0_add 5 (none)) B.pre
  have hts : ∀ w ∈ lw_all, w.before _ s = true := fun w h => hts w (List.mem_cons_of_mem _ h)
  have hown : s.vm.findClass RX0 = some m.cls := findClass_of_methodNamed B.named
  have hlocks := B.notSynchronized
  subst hsz
  have hD := hD0.self (sz := s.heap.size)
  generalize hAe : va_A (gW 0 o g cG cI ad M []) s.heap.size = A at hD ⊢
  have hA : ∀ q : Nat, s.heap.size ≤ q → A q := fun q h => by rw [← hAe]; exact Or.inr h
  have hS : va_S A s.heap s.heap [] := va_S.rf
  have hl := lv_entry ([.ref o, .int a, .int b]) (n := 5) (Nat.le_of_ble_eq_true rfl)
  rw [lg_entry_eq]
  generalize (lg_sl ([.ref o, .int a, .int b]) ++ List.replicate (5 - (lg_sl ([.ref o, .int a, .int b])).length) Slot.unset).toArray = ls at hl ⊢
  have hl : lv_has ls 5 [(0, .ref o), (1, .int a), (2, .int b)] := hl
  refine lv_sipush (v := 256) hx hb dX0_add_0 (by decide) ?_
  refine vg_newa hx hb (hts _ q24) 0 rfl hK.1 hP hD hS hA (Nat.le_of_ble_eq_true rfl) (Nat.le_of_ble_eq_true rfl) dX0_add_3 (fun z H hP hD hS => ?_)
  refine lv_astore_n (lv' := [(3, .ref z), (0, .ref o), (1, .int a), (2, .int b)]) hx hb dX0_add_5 rfl hl (by decide) rfl (fun ls hl => ?_)
  refine lv_iconst (v := nI 0) hx hb dX0_add_6 (by decide) ?_
  refine lv_istore (lv' := [(4, .int (nI 0)), (3, .ref z), (0, .ref o), (1, .int a), (2, .int b)]) hx hb dX0_add_7 hl (by decide) rfl (fun ls hl => ?_)
  refine add_X0 ⟨hx, hb, hml, hown, hts⟩ hK ⟨Nat.le_of_ble_eq_true rfl, Nat.le_of_ble_eq_true rfl⟩ ⟨Nat.le_of_ble_eq_true rfl, Nat.le_of_ble_eq_true rfl⟩ hM (fun w H locs ls hI hP hD hS hl => ?_) 256 0 (fun _ => 0) H [] ls rfl (fun k hk => absurd hk (Nat.not_lt_zero _)) hP hD hS (lv_sub hl [2, 3, 4, 1, 0] rfl)
  refine lv_aload_n hx hb dX0_add_53 rfl (lv_at hl 0 rfl) ?_
  refine va_get (D := (dC, dI)) (ci := 0) (v := .ref g) (C := RX0) (T := TX0) (N := 1) hx hb hts in_X0 hown hK.1 hP 0 rfl rfl 0 (by decide) (hts _ q20) (fun _ h9 => h9) rfl dX0_add_54 ?_
  refine lv_iload_n hx hb dX0_add_57 rfl (lv_at hl 1 rfl) ?_
  refine lv_iconst (v := 3) hx hb dX0_add_58 (by decide) ?_
  refine lv_iand hx hb dX0_add_59 ?_
  refine lv_aload_n hx hb dX0_add_60 rfl (lv_at hl 3 rfl) ?_
  refine vg_ast hx hb hK.2 hP hD hS 1 6 rfl rfl (in3 a) dX0_add_61 (fun H locs hP hD hS => ?_)
  have hP := gW_swapP (j3_lt a) hP
  have hD := gW_swapD (j3_lt a) hD
  exact W.vret hx hb hr (fun T hT hW => ⟨⟨(va_up ad (j3 a) z, va_up M (j3 a) w), rfl, ⟨w, rfl, hI⟩, by rw [hT]; exact hP, hD⟩, hS.F hT⟩) hS.2.2 dX0_add_62
set_option maxHeartbeats 4000000 in
set_option maxRecDepth 100000 in
theorem metX0_init (l : Launch) (dC : Nat → ClassId) (dI : Nat → Nat → Nat) (o : Nat) (cG cI : ClassId) (sz : Nat) : Met l yX0_init (ws_ yX0_init cX0_init 1 none) ({ frames := 1, cells := 5, slots := 1028, locals := 12 }) (va_Pc [.ref o] (fun U => U.heap.size = sz ∧ va_P (dC, dI) vwCl [(o, .inr (0, [.null]))] U.heap ∧ gK (dC, dI) vwCl cG cI U ∧ va_D (fun _ => True) [(o, .inr (0, [.null]))] ∧ gAO U)) (va_Qv (fun _ : Nat × (Nat → Nat) => True) (fun u T => va_P (dC, dI) vwCl (gW 0 o u.1 cG cI u.2 (fun _ _ => 0) []) T.heap ∧ va_D (va_A [(o, .inr (0, [.null]))] sz) (gW 0 o u.1 cG cI u.2 (fun _ _ => 0) [])) (va_A [(o, .inr (0, [.null]))] sz)) 5 1028 (va_A [(o, .inr (0, [.null]))] sz) := by
  refine Met.ofW (cc := cX0_init) (maxL := 1) (ret := none) (by decide) rfl ?_
  intro p e s m args below meth c s₁ B hml hv
  obtain ⟨rfl, hsz, hP, hK, hD0, hAO⟩ := hv
  have hx := B.exec
  have hb := B.bytes
  have hr := B.returns
  have hts := atoms_spec (ws := ws_ yX0_init cX0_init 1 (none)) B.pre
  have hts : ∀ w ∈ lw_all, w.before _ s = true := fun w h => hts w (List.mem_cons_of_mem _ h)
  have hown : s.vm.findClass RX0 = some m.cls := findClass_of_methodNamed B.named
  have hlocks := B.notSynchronized
  subst hsz
  have hD := hD0.self (sz := s.heap.size)
  generalize hAe : va_A [(o, .inr (0, [.null]))] s.heap.size = A at hD ⊢
  have hA : ∀ q : Nat, s.heap.size ≤ q → A q := fun q h => by rw [← hAe]; exact Or.inr h
  have hS : va_S A s.heap s.heap [] := va_S.rf
  have hl := lv_entry ([.ref o]) (n := 1) (Nat.le_of_ble_eq_true rfl)
  rw [lg_entry_eq]
  generalize (lg_sl ([.ref o]) ++ List.replicate (1 - (lg_sl ([.ref o])).length) Slot.unset).toArray = ls at hl ⊢
  have hl : lv_has ls 1 [(0, .ref o)] := hl
  refine lv_aload_n hx hb dX0_init_0 rfl (lv_at hl 0 rfl) ?_
  refine W.objInit hx hb hown (hts _ q15) (hts _ q16) (hts _ q17) rfl (by rw [hml]; exact hl.1) rfl dX0_init_1 (Nat.le_of_ble_eq_true rfl) (Nat.le_of_ble_eq_true rfl) ?_
  refine W.eq (g2 := F0 m 4 ls []) rfl ?_
  refine lv_aload_n hx hb dX0_init_4 rfl (lv_at hl 0 rfl) ?_
  refine lv_iconst (v := 4) hx hb dX0_init_5 (by decide) ?_
  refine lv_sipush (v := 256) hx hb dX0_init_6 (by decide) ?_
  refine vg_multi hx hb hown (hts _ q18) hAO (hts _ q24) hK hP hD hS hA (Nat.le_of_ble_eq_true rfl) (Nat.le_of_ble_eq_true rfl) dX0_init_9 (fun g ad H hP hD hS => ?_)
  refine va_put (D := (dC, dI)) (ci := 0) (v := .ref g) (ty := .array (.array .int)) (C := RX0) (T := TX0) (N := 1) hx hb hts in_X0 tyX0 tyX0_ok nmX0 hown hK.1 hP hD hS 0 rfl rfl 0 (by decide) (hts _ q20) (fun _ h9 => h9) rfl (by decide +kernel) rfl rfl (Nat.le_of_ble_eq_true rfl) dX0_init_13 (fun H locs hP hD hS => ?_)
  exact W.vret hx hb hr (fun T hT hW => ⟨⟨(g, ad), rfl, trivial, by rw [hT]; exact hP, hD⟩, hS.F hT⟩) hS.2.2 dX0_init_16
end
section
/-! contracts of HintRingModel: coefficient, put, spread, add, the constructor (printed by gen/g17.py) -/
set_option maxHeartbeats 4000000 in
set_option maxRecDepth 100000 in
theorem metX1_coefficient (l : Launch) (dC : Nat → ClassId) (dI : Nat → Nat → Nat) (o g : Nat) (cG cI : ClassId) (ad : Nat → Nat) (M : Nat → Nat → Int32) (sz : Nat) (a b : Int32) : Met l yX1_coefficient (ws_ yX1_coefficient cX1_coefficient 3 (some .int)) ({ frames := 0, cells := 0, slots := 0, locals := 0 }) (va_Pc [.ref o, .int a, .int b] (fun U => gPre dC dI 1 o g cG cI ad M sz U)) (vp_Si (fun r => r = M (j3 a) (j255 b))) 0 0 (fun _ => False) := by

  refine Met.ofW (cc := cX1_coefficient) (maxL := 3) (ret := some .int) (by decide) rfl ?_
  intro p e s m args below meth c s₁ B hml hv
  obtain ⟨rfl, hsz, hP, hK, hD0⟩ := hv
  have hx := B.exec
  have hb := B.bytes
  have hr := B.returns
  have hts := atoms_spec (ws := ws_ yX1_coefficient cX1_coefficient 3 (some .int)) B.pre
  have hts : ∀ w ∈ lw_all, w.before _ s = true := fun w h => hts w (List.mem_cons_of_mem _ h)
  have hown : s.vm.findClass RX1 = some m.cls := findClass_of_methodNamed B.named
  have hlocks := B.notSynchronized
  have hl := lv_entry ([.ref o, .int a, .int b]) (n := 3) (Nat.le_of_ble_eq_true rfl)
  rw [lg_entry_eq]
  generalize (lg_sl ([.ref o, .int a, .int b]) ++ List.replicate (3 - (lg_sl ([.ref o, .int a, .int b])).length) Slot.unset).toArray = ls at hl ⊢
  have hl : lv_has ls 3 [(0, .ref o), (1, .int a), (2, .int b)] := hl
  refine lv_aload_n hx hb dX1_coefficient_0 rfl (lv_at hl 0 rfl) ?_
  refine va_get (D := (dC, dI)) (ci := 1) (v := .ref g) (C := RX1) (T := TX1) (N := 1) hx hb hts in_X1 hown hK.1 hP 0 rfl rfl 0 (by decide) (hts _ q172) (fun _ h9 => h9) rfl dX1_coefficient_1 ?_
  refine lv_iload_n hx hb dX1_coefficient_4 rfl (lv_at hl 1 rfl) ?_
  refine lv_iconst (v := 3) hx hb dX1_coefficient_5 (by decide) ?_
  refine lv_iand hx hb dX1_coefficient_6 ?_
  refine vg_ald (y := ad (j3 a)) hx hb hK.1 hP 1 1 rfl rfl (in3 a) rfl dX1_coefficient_7 ?_
  refine lv_iload_n hx hb dX1_coefficient_8 rfl (lv_at hl 2 rfl) ?_
  refine lv_sipush (v := 255) hx hb dX1_coefficient_9 (by decide) ?_
  refine lv_iand hx hb dX1_coefficient_12 ?_
  refine va_iald hx hb hK.1 hP (2 + j3 a) 0 (gW_row (j3_lt a)) rfl (in255 b) dX1_coefficient_13 ?_
  exact W.iret hx hb hr (fun t ht hW => ⟨_, rfl, rfl, ht⟩) (fun q h => by cases h) dX1_coefficient_14
set_option maxHeartbeats 4000000 in
set_option maxRecDepth 100000 in
theorem metX1_put (l : Launch) (dC : Nat → ClassId) (dI : Nat → Nat → Nat) (o g : Nat) (cG cI : ClassId) (ad : Nat → Nat) (M : Nat → Nat → Int32) (sz : Nat) (a b v : Int32) : Met l yX1_put (ws_ yX1_put cX1_put 4 (none)) ({ frames := 0, cells := 0, slots := 0, locals := 0 }) (va_Pc [.ref o, .int a, .int b, .int v] (fun U => gPre dC dI 1 o g cG cI ad M sz U)) (va_Qv (fun u : (Nat → Nat) × (Nat → Nat → Int32) => u.2 = putS M a b v) (gPos dC dI 1 o g cG cI (va_A (gW 1 o g cG cI ad M []) sz)) (va_A (gW 1 o g cG cI ad M []) sz)) 0 0 (va_A (gW 1 o g cG cI ad M []) sz) := by

  refine Met.ofW (cc := cX1_put) (maxL := 4) (ret := none) (by decide) rfl ?_
  intro p e s m args below meth c s₁ B hml hv
  obtain ⟨rfl, hsz, hP, hK, hD0⟩ := hv
  have hx := B.exec
  have hb := B.bytes
  have hr := B.returns
  have hts := atoms_spec (ws := ws_ yX1_put cX1_put 4 (none)) B.pre
  have hts : ∀ w ∈ lw_all, w.before _ s = true := fun w h => hts w (List.mem_cons_of_mem _ h)
  have hown : s.vm.findClass RX1 = some m.cls := findClass_of_methodNamed B.named
  have hlocks := B.notSynchronized
  subst hsz
  have hD := hD0.self (sz := s.heap.size)
  generalize hAe : va_A (gW 1 o g cG cI ad M []) s.heap.size = A at hD ⊢
  have hA : ∀ q : Nat, s.heap.size ≤ q → A q := fun q h => by rw [← hAe]; exact Or.inr h
  have hS : va_S A s.heap s.heap [] := va_S.rf
  have hl := lv_entry ([.ref o, .int a, .int b, .int v]) (n := 4) (Nat.le_of_ble_eq_true rfl)
  rw [lg_entry_eq]
  generalize (lg_sl ([.ref o, .int a, .int b, .int v]) ++ List.replicate (4 - (lg_sl ([.ref o, .int a, .int b, .int v])).length) Slot.unset).toArray = ls at hl ⊢
  have hl : lv_has ls 4 [(0, .ref o), (1, .int a), (2, .int b), (3, .int v)] := hl
  refine lv_aload_n hx hb dX1_put_0 rfl (lv_at hl 0 rfl) ?_
  refine va_get (D := (dC, dI)) (ci := 1) (v := .ref g) (C := RX1) (T := TX1) (N := 1) hx hb hts in_X1 hown hK.1 hP 0 rfl rfl 0 (by decide) (hts _ q172) (fun _ h9 => h9) rfl dX1_put_1 ?_
  refine lv_iload_n hx hb dX1_put_4 rfl (lv_at hl 1 rfl) ?_
  refine lv_iconst (v := 3) hx hb dX1_put_5 (by decide) ?_
  refine lv_iand hx hb dX1_put_6 ?_
  refine vg_ald (y := ad (j3 a)) hx hb hK.1 hP 1 1 rfl rfl (in3 a) rfl dX1_put_7 ?_
  refine lv_iload_n hx hb dX1_put_8 rfl (lv_at hl 2 rfl) ?_
  refine lv_sipush (v := 255) hx hb dX1_put_9 (by decide) ?_
  refine lv_iand hx hb dX1_put_12 ?_
  refine lv_iload_n hx hb dX1_put_13 rfl (lv_at hl 3 rfl) ?_
  refine lv_ldc hx hb hown (hts _ q180) dX1_put_14 ?_
  refine lv_iand hx hb dX1_put_16 ?_
  refine lv_ldc hx hb hown (hts _ q181) dX1_put_17 ?_
  refine lv_irem hx hb dX1_put_19 (by decide) ?_
  refine va_iast (x := fairJ v) hx hb hK.1 hP hD hS (2 + j3 a) 0 (gW_row (j3_lt a)) rfl (in255 b) dX1_put_20 (fun H locs hP hD hS => ?_)
  rw [gW_set (j3_lt a)] at hP hD
  exact W.vret hx hb hr (fun T hT hW => ⟨⟨(ad, putS M a b v), rfl, rfl, by rw [hT]; exact hP, hD⟩, hS.F hT⟩) hS.2.2 dX1_put_21
section SPRX1
variable {p : Program} {l : Launch} {e : Env} {R : Room} {s : State} {m : MethodId} {args : Array Value} {below : List Frame} {meth : Method} {c : Code} {Q : State → Prop} {dC : Nat → ClassId} {dI : Nat → Nat → Nat} {A : Nat → Prop} {o g t : Nat} {cG cI : ClassId}
set_option maxHeartbeats 4000000 in
set_option maxRecDepth 100000 in
theorem spr_X1 (F : CallFix p m c cX1_spread 5 s args lw_all RX1) (hK : gK (dC, dI) vwCl cG cI s) (hR : 1 ≤ R.frames ∧ 20 ≤ R.locals) {ad : Nat → Nat} {M : Nat → Nat → Int32} {a b v : Int32}
    (kk : ∀ (H : Heap) (locs : List Loc) (ls : Array Slot), va_P (dC, dI) vwCl (gW 1 o g cG cI ad (sprS M a b v 256) []) H → va_D A (gW 1 o g cG cI ad (sprS M a b v 256) []) → va_S A s.heap H locs → W p l e R s m args below meth c H locs 0 0 Q (F0 m 40 ls [])) :
    ∀ (d i : Nat) (H : Heap) (locs : List Loc) (ls : Array Slot), i + d = 256 → va_P (dC, dI) vwCl (gW 1 o g cG cI ad (sprS M a b v i) []) H → va_D A (gW 1 o g cG cI ad (sprS M a b v i) []) → va_S A s.heap H locs → lv_has ls 5 [(0, .ref o), (1, .int a), (2, .int b), (3, .int v), (4, .int (nI i))] → W p l e R s m args below meth c H locs 0 0 Q (F0 m 3 ls []) := by
  obtain ⟨hx, hb, hml, hown, hts⟩ := id F
  intro d
  induction d with
  | zero =>
    intro i H locs ls hj hP hD hS hl
    have ej : i = 256 := by omega
    subst ej
    refine lv_iload hx hb dX1_spread_3 (lv_at hl 4 rfl) ?_
    refine lv_sipush (v := nI 256) hx hb dX1_spread_5 (by decide) ?_
    refine vn_ge (tgt := 40) hx hb (by decide) (by decide) dX1_spread_8 (by decide) (fun _ => ?_) (fun c_8 => absurd c_8 (by decide))
    exact kk H locs ls hP hD hS
  | succ d ih =>
    intro i H locs ls hj hP hD hS hl
    refine lv_iload hx hb dX1_spread_3 (lv_at hl 4 rfl) ?_
    refine lv_sipush (v := nI 256) hx hb dX1_spread_5 (by decide) ?_
    refine vn_ge (tgt := 40) hx hb (by omega) (by decide) dX1_spread_8 (by decide) (fun c_8 => absurd c_8 (by omega)) (fun c_8 => ?_)
    refine lv_aload_n hx hb dX1_spread_11 rfl (lv_at hl 0 rfl) ?_
    refine va_get (D := (dC, dI)) (ci := 1) (v := .ref g) (C := RX1) (T := TX1) (N := 1) hx hb hts in_X1 hown hK.1 hP 0 rfl rfl 0 (by decide) (hts _ q172) (fun _ h9 => h9) rfl dX1_spread_12 ?_
    refine lv_iload_n hx hb dX1_spread_15 rfl (lv_at hl 1 rfl) ?_
    refine lv_iconst (v := 3) hx hb dX1_spread_16 (by decide) ?_
    refine lv_iand hx hb dX1_spread_17 ?_
    refine vg_ald (y := ad (j3 a)) hx hb hK.1 hP 1 1 rfl rfl (in3 a) rfl dX1_spread_18 ?_
    refine lv_iload hx hb dX1_spread_19 (lv_at hl 4 rfl) ?_
    refine lv_iload_n hx hb dX1_spread_21 rfl (lv_at hl 2 rfl) ?_
    refine lv_iload hx hb dX1_spread_22 (lv_at hl 4 rfl) ?_
    refine lv_iload_n hx hb dX1_spread_24 rfl (lv_at hl 3 rfl) ?_
    refine lv_imul hx hb dX1_spread_25 ?_
    refine lv_iadd hx hb dX1_spread_26 ?_
    refine lv_ldc hx hb hown (hts _ q180) dX1_spread_27 ?_
    refine lv_iand hx hb dX1_spread_29 ?_
    refine lv_ldc hx hb hown (hts _ q181) dX1_spread_30 ?_
    refine lv_irem hx hb dX1_spread_32 (by decide) ?_
    refine vn_iast (x := fairJ (b + nI i * v)) hx hb hK.1 hP hD hS (2 + j3 a) 0 (gW_row (j3_lt a)) rfl c_8 (by decide) dX1_spread_33 (fun H locs hP hD hS => ?_)
    rw [gW_set (j3_lt a), sprS_s] at hP hD
    refine lv_iinc (v := nI (i + 1)) (lv' := [(4, .int (nI (i + 1))), (0, .ref o), (1, .int a), (2, .int b), (3, .int v)]) hx hb dX1_spread_34 hl (k := 4) rfl (nI_1 i) (by decide) rfl (fun ls hl => ?_)
    refine lv_goto (tgt := 3) hx hb dX1_spread_37 (by decide) ?_
    exact ih (i + 1) H locs ls (by omega) hP hD hS (lv_sub hl [1, 2, 3, 4, 0] rfl)
end SPRX1
set_option maxHeartbeats 4000000 in
set_option maxRecDepth 100000 in
theorem metX1_spread (l : Launch) (dC : Nat → ClassId) (dI : Nat → Nat → Nat) (o g : Nat) (cG cI : ClassId) (ad : Nat → Nat) (M : Nat → Nat → Int32) (sz : Nat) (a b v : Int32) : Met l yX1_spread (ws_ yX1_spread cX1_spread 5 (none)) ({ frames := 1, cells := 0, slots := 0, locals := 20 }) (va_Pc [.ref o, .int a, .int b, .int v] (fun U => gPre dC dI 1 o g cG cI ad M sz U)) (va_Qv (fun u : (Nat → Nat) × (Nat → Nat → Int32) => u.2 = sprS M a b v 256) (gPos dC dI 1 o g cG cI (va_A (gW 1 o g cG cI ad M []) sz)) (va_A (gW 1 o g cG cI ad M []) sz)) 0 0 (va_A (gW 1 o g cG cI ad M []) sz) := by

  refine Met.ofW (cc := cX1_spread) (maxL := 5) (ret := none) (by decide) rfl ?_
  intro p e s m args below meth c s₁ B hml hv
  obtain ⟨rfl, hsz, hP, hK, hD0⟩ := hv
  have hx := B.exec
  have hb := B.bytes
  have hr := B.returns
  have hts := atoms_spec (ws := ws_ yX1_spread cX1_spread 5 (none)) B.pre
  have hts : ∀ w ∈ lw_all, w.before _ s = true := fun w h => hts w (List.mem_cons_of_mem _ h)
  have hown : s.vm.findClass RX1 = some m.cls := findClass_of_methodNamed B.named
  have hlocks := B.notSynchronized
  subst hsz
  have hD := hD0.self (sz := s.heap.size)
  generalize hAe : va_A (gW 1 o g cG cI ad M []) s.heap.size = A at hD ⊢
  have hA : ∀ q : Nat, s.heap.size ≤ q → A q := fun q h => by rw [← hAe]; exact Or.inr h
  have hS : va_S A s.heap s.heap [] := va_S.rf
  have hl := lv_entry ([.ref o, .int a, .int b, .int v]) (n := 5) (Nat.le_of_ble_eq_true rfl)
  rw [lg_entry_eq]
  generalize (lg_sl ([.ref o, .int a, .int b, .int v]) ++ List.replicate (5 - (lg_sl ([.ref o, .int a, .int b, .int v])).length) Slot.unset).toArray = ls at hl ⊢
  have hl : lv_has ls 5 [(0, .ref o), (1, .int a), (2, .int b), (3, .int v)] := hl
  refine lv_iconst (v := nI 0) hx hb dX1_spread_0 (by decide) ?_
  refine lv_istore (lv' := [(4, .int (nI 0)), (0, .ref o), (1, .int a), (2, .int b), (3, .int v)]) hx hb dX1_spread_1 hl (by decide) rfl (fun ls hl => ?_)
  refine spr_X1 ⟨hx, hb, hml, hown, hts⟩ hK ⟨Nat.le_of_ble_eq_true rfl, Nat.le_of_ble_eq_true rfl⟩ (fun H locs ls hP hD hS => ?_) 256 0 s.heap [] ls rfl (by rw [sprS_0]; exact hP) (by rw [sprS_0]; exact hD) hS (lv_sub hl [1, 2, 3, 4, 0] rfl)
  exact W.vret hx hb hr (fun T hT hW => ⟨⟨(ad, sprS M a b v 256), rfl, rfl, by rw [hT]; exact hP, hD⟩, hS.F hT⟩) hS.2.2 dX1_spread_40
section ADDX1
variable {p : Program} {l : Launch} {e : Env} {R : Room} {s : State} {m : MethodId} {args : Array Value} {below : List Frame} {meth : Method} {c : Code} {Q : State → Prop} {dC : Nat → ClassId} {dI : Nat → Nat → Nat} {A : Nat → Prop} {o g t : Nat} {cG cI : ClassId}
set_option maxHeartbeats 4000000 in
set_option maxRecDepth 100000 in
theorem add_X1 (F : CallFix p m c cX1_add 5 s args lw_all RX1) (hK : gK (dC, dI) vwCl cG cI s) (hR : 2 ≤ R.frames ∧ 41 ≤ R.locals) (hR2 : 1 ≤ R.cells ∧ 256 ≤ R.slots) {ad : Nat → Nat} {M : Nat → Nat → Int32} (hM : gOk M) {a b : Int32} {z : Nat}
    (kk : ∀ (w : Nat → Int32) (H : Heap) (locs : List Loc) (ls : Array Slot), addP M a b w 256 → va_P (dC, dI) vwCl (gW 1 o g cG cI ad (M) [(z, .inl (cI, 256, .inl w))]) H → va_D A (gW 1 o g cG cI ad (M) [(z, .inl (cI, 256, .inl w))]) → va_S A s.heap H locs → lv_has ls 5 [(0, .ref o), (1, .int a), (2, .int b), (3, .ref z)] → W p l e R s m args below meth c H locs 1 256 Q (F0 m 53 ls [])) :
    ∀ (d i : Nat) (w : Nat → Int32) (H : Heap) (locs : List Loc) (ls : Array Slot), i + d = 256 → addP M a b w i → va_P (dC, dI) vwCl (gW 1 o g cG cI ad (M) [(z, .inl (cI, 256, .inl w))]) H → va_D A (gW 1 o g cG cI ad (M) [(z, .inl (cI, 256, .inl w))]) → va_S A s.heap H locs → lv_has ls 5 [(0, .ref o), (1, .int a), (2, .int b), (3, .ref z), (4, .int (nI i))] → W p l e R s m args below meth c H locs 1 256 Q (F0 m 9 ls []) := by
  obtain ⟨hx, hb, hml, hown, hts⟩ := id F
  intro d
  induction d with
  | zero =>
    intro i w H locs ls hj hI hP hD hS hl
    have ej : i = 256 := by omega
    subst ej
    refine lv_iload hx hb dX1_add_9 (lv_at hl 4 rfl) ?_
    refine lv_sipush (v := nI 256) hx hb dX1_add_11 (by decide) ?_
    refine vn_ge (tgt := 53) hx hb (by decide) (by decide) dX1_add_14 (by decide) (fun _ => ?_) (fun c_8 => absurd c_8 (by decide))
    exact kk w H locs ls hI hP hD hS (lv_sub hl [0, 1, 2, 3] rfl)
  | succ d ih =>
    intro i w H locs ls hj hI hP hD hS hl
    refine lv_iload hx hb dX1_add_9 (lv_at hl 4 rfl) ?_
    refine lv_sipush (v := nI 256) hx hb dX1_add_11 (by decide) ?_
    refine vn_ge (tgt := 53) hx hb (by omega) (by decide) dX1_add_14 (by decide) (fun c_8 => absurd c_8 (by omega)) (fun c_8 => ?_)
    refine lv_aload_n hx hb dX1_add_17 rfl (lv_at hl 3 rfl) ?_
    refine lv_iload hx hb dX1_add_18 (lv_at hl 4 rfl) ?_
    refine lv_aload_n hx hb dX1_add_20 rfl (lv_at hl 0 rfl) ?_
    refine va_get (D := (dC, dI)) (ci := 1) (v := .ref g) (C := RX1) (T := TX1) (N := 1) hx hb hts in_X1 hown hK.1 hP 0 rfl rfl 0 (by decide) (hts _ q172) (fun _ h9 => h9) rfl dX1_add_21 ?_
    refine lv_iload_n hx hb dX1_add_24 rfl (lv_at hl 1 rfl) ?_
    refine lv_iconst (v := 3) hx hb dX1_add_25 (by decide) ?_
    refine lv_iand hx hb dX1_add_26 ?_
    refine vg_ald (y := ad (j3 a)) hx hb hK.1 hP 1 1 rfl rfl (in3 a) rfl dX1_add_27 ?_
    refine lv_iload hx hb dX1_add_28 (lv_at hl 4 rfl) ?_
    refine vn_iald hx hb hK.1 hP (2 + j3 a) 0 (gW_row (j3_lt a)) rfl c_8 (by decide) dX1_add_30 ?_
    refine lv_aload_n hx hb dX1_add_31 rfl (lv_at hl 0 rfl) ?_
    refine va_get (D := (dC, dI)) (ci := 1) (v := .ref g) (C := RX1) (T := TX1) (N := 1) hx hb hts in_X1 hown hK.1 hP 0 rfl rfl 0 (by decide) (hts _ q172) (fun _ h9 => h9) rfl dX1_add_32 ?_
    refine lv_iload_n hx hb dX1_add_35 rfl (lv_at hl 2 rfl) ?_
    refine lv_iconst (v := 3) hx hb dX1_add_36 (by decide) ?_
    refine lv_iand hx hb dX1_add_37 ?_
    refine vg_ald (y := ad (j3 b)) hx hb hK.1 hP 1 1 rfl rfl (in3 b) rfl dX1_add_38 ?_
    refine lv_iload hx hb dX1_add_39 (lv_at hl 4 rfl) ?_
    refine vn_iald hx hb hK.1 hP (2 + j3 b) 0 (gW_row (j3_lt b)) rfl c_8 (by decide) dX1_add_41 ?_
    refine lv_iadd hx hb dX1_add_42 ?_
    have m1 := hM (j3 a) (j3_lt a) i c_8
    have m2 := hM (j3 b) (j3_lt b) i c_8
    have e1 := gadd m1 m2
    refine lv_ldc hx hb hown (hts _ q181) dX1_add_43 ?_
    refine lv_irem hx hb dX1_add_45 (by decide) ?_
    refine lv_topi (fun r_43 hr_43 => ?_)
    have e2 : r_43.toInt = ((M (j3 a) i).toInt + (M (j3 b) i).toInt) % 8380417 := by rw [hr_43]; exact (rem_q (by rw [e1]; omega)).trans (by rw [e1])
    refine vn_iast hx hb hK.1 hP hD hS 6 0 rfl rfl c_8 (by decide) dX1_add_46 (fun H locs hP hD hS => ?_)
    refine lv_iinc (v := nI (i + 1)) (lv' := [(4, .int (nI (i + 1))), (0, .ref o), (1, .int a), (2, .int b), (3, .ref z)]) hx hb dX1_add_47 hl (k := 4) rfl (nI_1 i) (by decide) rfl (fun ls hl => ?_)
    refine lv_goto (tgt := 9) hx hb dX1_add_50 (by decide) ?_
    exact ih (i + 1) (upd w i r_43) H locs ls (by omega) (addP_s hI e2) hP hD hS (lv_sub hl [1, 2, 3, 4, 0] rfl)
end ADDX1
set_option maxHeartbeats 4000000 in
set_option maxRecDepth 100000 in
theorem metX1_add (l : Launch) (dC : Nat → ClassId) (dI : Nat → Nat → Nat) (o g : Nat) (cG cI : ClassId) (ad : Nat → Nat) (M : Nat → Nat → Int32) (sz : Nat) (hM : gOk M) (a b : Int32) : Met l yX1_add (ws_ yX1_add cX1_add 5 (none)) ({ frames := 2, cells := 1, slots := 256, locals := 41 }) (va_Pc [.ref o, .int a, .int b] (fun U => gPre dC dI 1 o g cG cI ad M sz U)) (va_Qv (fun u : (Nat → Nat) × (Nat → Nat → Int32) => ∃ w, u.2 = va_up M (j3 a) w ∧ addP M a b w 256) (gPos dC dI 1 o g cG cI (va_A (gW 1 o g cG cI ad M []) sz)) (va_A (gW 1 o g cG cI ad M []) sz)) 1 256 (va_A (gW 1 o g cG cI ad M []) sz) := by

  refine Met.ofW (cc := cX1_add) (maxL := 5) (ret := none) (by decide) rfl ?_
  intro p e s m args below meth c s₁ B hml hv
  obtain ⟨rfl, hsz, hP, hK, hD0⟩ := hv
  have hx := B.exec
  have hb := B.bytes
  have hr := B.returns
  have hts := atoms_spec (ws := ws_ yX1_add cX1_add 5 (none)) B.pre
  have hts : ∀ w ∈ lw_all, w.before _ s = true := fun w h => hts w (List.mem_cons_of_mem _ h)
  have hown : s.vm.findClass RX1 = some m.cls := findClass_of_methodNamed B.named
  have hlocks := B.notSynchronized
  subst hsz
  have hD := hD0.self (sz := s.heap.size)
  generalize hAe : va_A (gW 1 o g cG cI ad M []) s.heap.size = A at hD ⊢
  have hA : ∀ q : Nat, s.heap.size ≤ q → A q := fun q h => by rw [← hAe]; exact Or.inr h
  have hS : va_S A s.heap s.heap [] := va_S.rf
  have hl := lv_entry ([.ref o, .int a, .int b]) (n := 5) (Nat.le_of_ble_eq_true rfl)
  rw [lg_entry_eq]
  generalize (lg_sl ([.ref o, .int a, .int b]) ++ List.replicate (5 - (lg_sl ([.ref o, .int a, .int b])).length) Slot.unset).toArray = ls at hl ⊢
  have hl : lv_has ls 5 [(0, .ref o), (1, .int a), (2, .int b)] := hl
  refine lv_sipush (v := 256) hx hb dX1_add_0 (by decide) ?_
  refine vg_newa hx hb (hts _ q24) 0 rfl hK.1 hP hD hS hA (Nat.le_of_ble_eq_true rfl) (Nat.le_of_ble_eq_true rfl) dX1_add_3 (fun z H hP hD hS => ?_)
  refine lv_astore_n (lv' := [(3, .ref z), (0, .ref o), (1, .int a), (2, .int b)]) hx hb dX1_add_5 rfl hl (by decide) rfl (fun ls hl => ?_)
  refine lv_iconst (v := nI 0) hx hb dX1_add_6 (by decide) ?_
  refine lv_istore (lv' := [(4, .int (nI 0)), (3, .ref z), (0, .ref o), (1, .int a), (2, .int b)]) hx hb dX1_add_7 hl (by decide) rfl (fun ls hl => ?_)
  refine add_X1 ⟨hx, hb, hml, hown, hts⟩ hK ⟨Nat.le_of_ble_eq_true rfl, Nat.le_of_ble_eq_true rfl⟩ ⟨Nat.le_of_ble_eq_true rfl, Nat.le_of_ble_eq_true rfl⟩ hM (fun w H locs ls hI hP hD hS hl => ?_) 256 0 (fun _ => 0) H [] ls rfl (fun k hk => absurd hk (Nat.not_lt_zero _)) hP hD hS (lv_sub hl [2, 3, 4, 1, 0] rfl)
  refine lv_aload_n hx hb dX1_add_53 rfl (lv_at hl 0 rfl) ?_
  refine va_get (D := (dC, dI)) (ci := 1) (v := .ref g) (C := RX1) (T := TX1) (N := 1) hx hb hts in_X1 hown hK.1 hP 0 rfl rfl 0 (by decide) (hts _ q172) (fun _ h9 => h9) rfl dX1_add_54 ?_
  refine lv_iload_n hx hb dX1_add_57 rfl (lv_at hl 1 rfl) ?_
  refine lv_iconst (v := 3) hx hb dX1_add_58 (by decide) ?_
  refine lv_iand hx hb dX1_add_59 ?_
  refine lv_aload_n hx hb dX1_add_60 rfl (lv_at hl 3 rfl) ?_
  refine vg_ast hx hb hK.2 hP hD hS 1 6 rfl rfl (in3 a) dX1_add_61 (fun H locs hP hD hS => ?_)
  have hP := gW_swapP (j3_lt a) hP
  have hD := gW_swapD (j3_lt a) hD
  exact W.vret hx hb hr (fun T hT hW => ⟨⟨(va_up ad (j3 a) z, va_up M (j3 a) w), rfl, ⟨w, rfl, hI⟩, by rw [hT]; exact hP, hD⟩, hS.F hT⟩) hS.2.2 dX1_add_62
set_option maxHeartbeats 4000000 in
set_option maxRecDepth 100000 in
theorem metX1_init (l : Launch) (dC : Nat → ClassId) (dI : Nat → Nat → Nat) (o : Nat) (cG cI : ClassId) (sz : Nat) : Met l yX1_init (ws_ yX1_init cX1_init 1 none) ({ frames := 1, cells := 5, slots := 1028, locals := 12 }) (va_Pc [.ref o] (fun U => U.heap.size = sz ∧ va_P (dC, dI) vwCl [(o, .inr (1, [.null]))] U.heap ∧ gK (dC, dI) vwCl cG cI U ∧ va_D (fun _ => True) [(o, .inr (1, [.null]))] ∧ gAO U)) (va_Qv (fun _ : Nat × (Nat → Nat) => True) (fun u T => va_P (dC, dI) vwCl (gW 1 o u.1 cG cI u.2 (fun _ _ => 0) []) T.heap ∧ va_D (va_A [(o, .inr (1, [.null]))] sz) (gW 1 o u.1 cG cI u.2 (fun _ _ => 0) [])) (va_A [(o, .inr (1, [.null]))] sz)) 5 1028 (va_A [(o, .inr (1, [.null]))] sz) := by
  refine Met.ofW (cc := cX1_init) (maxL := 1) (ret := none) (by decide) rfl ?_
  intro p e s m args below meth c s₁ B hml hv
  obtain ⟨rfl, hsz, hP, hK, hD0, hAO⟩ := hv
  have hx := B.exec
  have hb := B.bytes
  have hr := B.returns
  have hts := atoms_spec (ws := ws_ yX1_init cX1_init 1 (none)) B.pre
  have hts : ∀ w ∈ lw_all, w.before _ s = true := fun w h => hts w (List.mem_cons_of_mem _ h)
  have hown : s.vm.findClass RX1 = some m.cls := findClass_of_methodNamed B.named
  have hlocks := B.notSynchronized
  subst hsz
  have hD := hD0.self (sz := s.heap.size)
  generalize hAe : va_A [(o, .inr (1, [.null]))] s.heap.size = A at hD ⊢
  have hA : ∀ q : Nat, s.heap.size ≤ q → A q := fun q h => by rw [← hAe]; exact Or.inr h
  have hS : va_S A s.heap s.heap [] := va_S.rf
  have hl := lv_entry ([.ref o]) (n := 1) (Nat.le_of_ble_eq_true rfl)
  rw [lg_entry_eq]
  generalize (lg_sl ([.ref o]) ++ List.replicate (1 - (lg_sl ([.ref o])).length) Slot.unset).toArray = ls at hl ⊢
  have hl : lv_has ls 1 [(0, .ref o)] := hl
  refine lv_aload_n hx hb dX1_init_0 rfl (lv_at hl 0 rfl) ?_
  refine W.objInit hx hb hown (hts _ q170) (hts _ q16) (hts _ q17) rfl (by rw [hml]; exact hl.1) rfl dX1_init_1 (Nat.le_of_ble_eq_true rfl) (Nat.le_of_ble_eq_true rfl) ?_
  refine W.eq (g2 := F0 m 4 ls []) rfl ?_
  refine lv_aload_n hx hb dX1_init_4 rfl (lv_at hl 0 rfl) ?_
  refine lv_iconst (v := 4) hx hb dX1_init_5 (by decide) ?_
  refine lv_sipush (v := 256) hx hb dX1_init_6 (by decide) ?_
  refine vg_multi hx hb hown (hts _ q171) hAO (hts _ q24) hK hP hD hS hA (Nat.le_of_ble_eq_true rfl) (Nat.le_of_ble_eq_true rfl) dX1_init_9 (fun g ad H hP hD hS => ?_)
  refine va_put (D := (dC, dI)) (ci := 1) (v := .ref g) (ty := .array (.array .int)) (C := RX1) (T := TX1) (N := 1) hx hb hts in_X1 tyX1 tyX1_ok nmX1 hown hK.1 hP hD hS 0 rfl rfl 0 (by decide) (hts _ q172) (fun _ h9 => h9) rfl (by decide +kernel) rfl rfl (Nat.le_of_ble_eq_true rfl) dX1_init_13 (fun H locs hP hD hS => ?_)
  exact W.vret hx hb hr (fun T hT hW => ⟨⟨(g, ad), rfl, trivial, by rw [hT]; exact hP, hD⟩, hS.F hT⟩) hS.2.2 dX1_init_16
end
section
/-! multiply of both classes (printed by gen/g19.py) -/
section NSB
variable {p : Program} {l : Launch} {e : Env} {R : Room} {s : State} {m : MethodId} {args : Array Value} {below : List Frame} {meth : Method} {c : Code} {H : Heap} {locs : List Loc} {cells slots : Nat} {Q : State → Prop} {cc : ByteArray} {pc : Nat} {ls : Array Slot} {rest : List Value}
theorem vn_isub (hexec : p.tables.exec = Jvm.exec) (hb : c.code = cc) {x y z : Nat} (h : x = y + z) (hdg : decode cc pc = .ok (.isub, 1)) (k : W p l e R s m args below meth c H locs cells slots Q (F0 m (pc + 1) ls (.int (nI z) :: rest))) : W p l e R s m args below meth c H locs cells slots Q (F0 m pc ls (.int (nI y) :: .int (nI x) :: rest)) := by
  refine lv_isub hexec hb hdg ?_
  rw [pk_sub (by omega), show x - y = z by omega]
  exact k
end NSB
theorem mw {x y : Int32} (h1 : 0 ≤ x.toInt ∧ x.toInt < 8380417) (h2 : 0 ≤ y.toInt ∧ y.toInt < 8380417) : ((remL (x.toInt64 * y.toInt64)).toInt32).toInt = x.toInt * y.toInt % 8380417 := by
  have hp := ar_prod (x := x.toInt) (y := y.toInt) (A := 8380417) (B := 8380417) (by omega) (by omega) (by omega) (by omega)
  have hn : 0 ≤ x.toInt * y.toInt := Int.mul_nonneg h1.1 h2.1
  have e : (x.toInt64 * y.toInt64).toInt = x.toInt * y.toInt := by
    rw [ar_mul64 (by rw [Int32.toInt_toInt64, Int32.toInt_toInt64]; omega) (by rw [Int32.toInt_toInt64, Int32.toInt_toInt64]; omega), Int32.toInt_toInt64, Int32.toInt_toInt64]
  rw [Int64.toInt_toInt32, remL_q (by rw [e]; exact hn), e]
  have v0 := ar_m0 (x.toInt * y.toInt)
  have v1 := ar_m1 (x.toInt * y.toInt)
  exact ar_b32 (by omega) (by omega)
theorem mhi {x v : Int32} (h : 0 ≤ x.toInt ∧ x.toInt < 8380417) (x0 : 0 ≤ v.toInt) (x1 : v.toInt ≤ 8380416) : (remJ (x + 8380417 - v)).toInt = (x.toInt + 8380417 - v.toInt) % 8380417 := by
  have e1 : (x + 8380417).toInt = x.toInt + 8380417 := by rw [ar_add (by rw [ar_litq]; omega) (by rw [ar_litq]; omega), ar_litq]
  have e2 : (x + 8380417 - v).toInt = x.toInt + 8380417 - v.toInt := by rw [ar_sub (by rw [e1]; omega) (by rw [e1]; omega), e1]
  rw [rem_q (by rw [e2]; omega), e2]
theorem mlo {x v : Int32} (h : 0 ≤ x.toInt ∧ x.toInt < 8380417) (x0 : 0 ≤ v.toInt) (x1 : v.toInt ≤ 8380416) : (remJ (x + v)).toInt = (x.toInt + v.toInt) % 8380417 := by
  have e1 : (x + v).toInt = x.toInt + v.toInt := ar_add (by omega) (by omega)
  rw [rem_q (by rw [e1]; omega), e1]
def mInv (M : Nat → Nat → Int32) (r2 r3 : Int32) (w : Nat → Int32) (i j : Nat) : Prop := (∀ k, k < 256 → 0 ≤ (w k).toInt ∧ (w k).toInt < 8380417) ∧ ∀ x : Int, cg (x ^ 256) (-1) → cg (pb (tI w) x 0 256) (ac (tI (M (j3 r2))) (tI (M (j3 r3))) x i j)
theorem tI_upd (w : Nat → Int32) (k : Nat) (v : Int32) : tI (upd w k v) = fun i => if i = k then v.toInt else tI w i := by
  funext i
  by_cases q : i = k
  · subst q
    unfold tI
    rw [pk_us, if_pos rfl]
  · unfold tI
    rw [pk_un q, if_neg q]
theorem rng_upd {w : Nat → Int32} {k : Nat} {v : Int32} {y : Int} (h : ∀ k, k < 256 → 0 ≤ (w k).toInt ∧ (w k).toInt < 8380417) (hv : v.toInt = y % 8380417) : ∀ i, i < 256 → 0 ≤ (upd w k v i).toInt ∧ (upd w k v i).toInt < 8380417 := by
  intro i hi
  by_cases q : i = k
  · subst q
    rw [pk_us, hv]
    have v0 := ar_m0 y
    have v1 := ar_m1 y
    omega
  · rw [pk_un q]
    exact h i hi
theorem mInv_lo {M : Nat → Nat → Int32} {r2 r3 : Int32} {w : Nat → Int32} {i j : Nat} {x v : Int32} (h : mInv M r2 r3 w i j) (hk : i + j < 256) (hx : x.toInt = (M (j3 r2) i).toInt * (M (j3 r3) j).toInt % 8380417) (hv : v.toInt = ((w (i + j)).toInt + x.toInt) % 8380417) : mInv M r2 r3 (upd w (i + j) v) i (j + 1) := by
  refine ⟨rng_upd h.1 hv, fun y hy => ?_⟩
  rw [tI_upd]
  refine st_lo hk (h.2 y hy) ?_
  rw [hv]
  refine (cg.emod _).tr ((cg.rf _).add ?_)
  rw [hx]
  exact cg.emod _
theorem mInv_hi {M : Nat → Nat → Int32} {r2 r3 : Int32} {w : Nat → Int32} {i j k : Nat} {x v : Int32} (h : mInv M r2 r3 w i j) (e : i + j = 256 + k) (hk : k < 256) (hx : x.toInt = (M (j3 r2) i).toInt * (M (j3 r3) j).toInt % 8380417) (hv : v.toInt = ((w k).toInt + 8380417 - x.toInt) % 8380417) : mInv M r2 r3 (upd w k v) i (j + 1) := by
  refine ⟨rng_upd h.1 hv, fun y hy => ?_⟩
  rw [tI_upd]
  refine st_hi hy e hk (h.2 y hy) ?_
  rw [hv]
  refine (cg.emod _).tr (cg.sub ⟨1, by unfold tI; omega⟩ ?_)
  rw [hx]
  exact cg.emod _
theorem mInv_0 (M : Nat → Nat → Int32) (r2 r3 : Int32) : mInv M r2 r3 (fun _ => 0) 0 0 := by
  refine ⟨fun k _ => ⟨show (0 : Int) ≤ (0 : Int32).toInt by decide, show (0 : Int32).toInt < 8380417 by decide⟩, fun x _ => cg.of ?_⟩
  rw [ac_0]
  have key : ∀ n, fb_si (fun i => tI (fun _ => (0 : Int32)) (0 + i) * x ^ i) n = 0 := by
    intro n
    induction n with
    | zero => rfl
    | succ n ih =>
      rw [fb_si_succ, ih]
      show 0 + (0 : Int32).toInt * x ^ n = 0
      rw [show (0 : Int32).toInt = 0 by decide, Int.zero_mul]
      rfl
  exact key 256
theorem mInv_n {M : Nat → Nat → Int32} {r2 r3 : Int32} {w : Nat → Int32} {i : Nat} (h : mInv M r2 r3 w i 256) : mInv M r2 r3 w (i + 1) 0 := ⟨h.1, fun x hx => by rw [← ac_n]; exact h.2 x hx⟩
theorem mInv_e {M : Nat → Nat → Int32} {r2 r3 : Int32} {w : Nat → Int32} (h : mInv M r2 r3 w 256 0) : mulP M r2 r3 w := by
  intro i hi
  refine ⟨(h.1 i hi).1, (h.1 i hi).2, ?_⟩
  exact mul_ev (z := tI w) (fun x hx => by rw [← ac_e]; exact h.2 x hx) i hi
section MMU
variable {p : Program} {l : Launch} {e : Env} {R : Room} {s : State} {m : MethodId} {args : Array Value} {below : List Frame} {meth : Method} {c : Code} {Q : State → Prop} {dC : Nat → ClassId} {dI : Nat → Nat → Nat} {A : Nat → Prop} {o g t : Nat} {cG cI : ClassId}
set_option maxHeartbeats 4000000 in
set_option maxRecDepth 100000 in
theorem mmu_in (F : CallFix p m c cX1_multiply 8 s args lw_all RX1) (hK : gK (dC, dI) vwCl cG cI s) {ad : Nat → Nat} {M : Nat → Nat → Int32} (hM : gOk M) {r1 r2 r3 : Int32} {z i : Nat} (hi : i < 256)
    (kk : ∀ (w : Nat → Int32) (H : Heap) (locs : List Loc) (ls : Array Slot), mInv M r2 r3 w i 256 → va_P (dC, dI) vwCl (gW 1 o g cG cI ad (M) [(z, .inl (cI, 256, .inl w))]) H → va_D A (gW 1 o g cG cI ad (M) [(z, .inl (cI, 256, .inl w))]) → va_S A s.heap H locs → lv_has ls 8 [(0, .ref o), (1, .int r1), (2, .int r2), (3, .int r3), (4, .ref z), (5, .int (nI i))] → W p l e R s m args below meth c H locs 1 256 Q (F0 m 136 ls [])) :
    ∀ (d j : Nat) (w : Nat → Int32) (H : Heap) (locs : List Loc) (ls : Array Slot), j + d = 256 → mInv M r2 r3 w i j → va_P (dC, dI) vwCl (gW 1 o g cG cI ad (M) [(z, .inl (cI, 256, .inl w))]) H → va_D A (gW 1 o g cG cI ad (M) [(z, .inl (cI, 256, .inl w))]) → va_S A s.heap H locs → lv_has ls 8 [(0, .ref o), (1, .int r1), (2, .int r2), (3, .int r3), (4, .ref z), (5, .int (nI i)), (6, .int (nI j))] → W p l e R s m args below meth c H locs 1 256 Q (F0 m 21 ls []) := by
  obtain ⟨hx, hb, hml, hown, hts⟩ := id F
  intro d
  induction d with
  | zero =>
    intro j w H locs ls hj hI hP hD hS hl
    have ej : j = 256 := by omega
    subst ej
    refine lv_iload hx hb dX1_multiply_21 (lv_at hl 6 rfl) ?_
    refine lv_sipush (v := nI 256) hx hb dX1_multiply_23 (by decide) ?_
    refine vn_ge (tgt := 136) hx hb (by decide) (by decide) dX1_multiply_26 (by decide) (fun _ => ?_) (fun c_8 => absurd c_8 (by decide))
    exact kk w H locs ls hI hP hD hS (lv_sub hl [0, 1, 2, 3, 4, 5] rfl)
  | succ d ih =>
    intro j w H locs ls hj hI hP hD hS hl
    refine lv_iload hx hb dX1_multiply_21 (lv_at hl 6 rfl) ?_
    refine lv_sipush (v := nI 256) hx hb dX1_multiply_23 (by decide) ?_
    refine vn_ge (tgt := 136) hx hb (by omega) (by decide) dX1_multiply_26 (by decide) (fun c_8 => absurd c_8 (by omega)) (fun c_8 => ?_)
    refine lv_aload_n hx hb dX1_multiply_29 rfl (lv_at hl 0 rfl) ?_
    refine va_get (D := (dC, dI)) (ci := 1) (v := .ref g) (C := RX1) (T := TX1) (N := 1) hx hb hts in_X1 hown hK.1 hP 0 rfl rfl 0 (by decide) (hts _ q172) (fun _ h9 => h9) rfl dX1_multiply_30 ?_
    refine lv_iload_n hx hb dX1_multiply_33 rfl (lv_at hl 2 rfl) ?_
    refine lv_iconst (v := 3) hx hb dX1_multiply_34 (by decide) ?_
    refine lv_iand hx hb dX1_multiply_35 ?_
    refine vg_ald (y := ad (j3 r2)) hx hb hK.1 hP 1 1 rfl rfl (in3 r2) rfl dX1_multiply_36 ?_
    refine lv_iload hx hb dX1_multiply_37 (lv_at hl 5 rfl) ?_
    refine vn_iald hx hb hK.1 hP (2 + j3 r2) 0 (gW_row (j3_lt r2)) rfl hi (by decide) dX1_multiply_39 ?_
    refine lv_i2l hx hb dX1_multiply_40 rfl ?_
    refine lv_aload_n hx hb dX1_multiply_41 rfl (lv_at hl 0 rfl) ?_
    refine va_get (D := (dC, dI)) (ci := 1) (v := .ref g) (C := RX1) (T := TX1) (N := 1) hx hb hts in_X1 hown hK.1 hP 0 rfl rfl 0 (by decide) (hts _ q172) (fun _ h9 => h9) rfl dX1_multiply_42 ?_
    refine lv_iload_n hx hb dX1_multiply_45 rfl (lv_at hl 3 rfl) ?_
    refine lv_iconst (v := 3) hx hb dX1_multiply_46 (by decide) ?_
    refine lv_iand hx hb dX1_multiply_47 ?_
    refine vg_ald (y := ad (j3 r3)) hx hb hK.1 hP 1 1 rfl rfl (in3 r3) rfl dX1_multiply_48 ?_
    refine lv_iload hx hb dX1_multiply_49 (lv_at hl 6 rfl) ?_
    refine vn_iald hx hb hK.1 hP (2 + j3 r3) 0 (gW_row (j3_lt r3)) rfl c_8 (by decide) dX1_multiply_51 ?_
    refine lv_i2l hx hb dX1_multiply_52 rfl ?_
    refine lv_lmul hx hb dX1_multiply_53 ?_
    refine lv_ldc2 hx hb hown (hts _ q190) dX1_multiply_54 ?_
    refine lv_lrem hx hb dX1_multiply_57 (by decide) ?_
    refine lv_l2i hx hb dX1_multiply_58 rfl ?_
    refine lv_topi (fun v_59 ev_59 => ?_)
    refine lv_istore (lv' := [(7, .int v_59), (0, .ref o), (1, .int r1), (2, .int r2), (3, .int r3), (4, .ref z), (5, .int (nI i)), (6, .int (nI j))]) hx hb dX1_multiply_59 hl (by decide) rfl (fun ls hl => ?_)
    have m1 := hM (j3 r2) (j3_lt r2) i hi
    have m2 := hM (j3 r3) (j3_lt r3) j c_8
    have ex : v_59.toInt = (M (j3 r2) i).toInt * (M (j3 r3) j).toInt % 8380417 := by rw [ev_59]; exact mw m1 m2
    have x0 : 0 ≤ v_59.toInt := by rw [ex]; exact ar_m0 _
    have x1 : v_59.toInt ≤ 8380416 := by rw [ex]; exact ar_m1 _
    clear m1 m2
    refine lv_iload hx hb dX1_multiply_61 (lv_at hl 6 rfl) ?_
    refine lv_iload hx hb dX1_multiply_63 (lv_at hl 7 rfl) ?_
    refine vn_iadd hx hb dX1_multiply_65 ?_
    refine lv_sipush (v := nI 256) hx hb dX1_multiply_66 (by decide) ?_
    refine vn_ge (tgt := 97) hx hb (by omega) (by decide) dX1_multiply_69 (by decide) (fun c_69 => ?_) (fun c_69 => ?_)
    · obtain ⟨k, ek⟩ : ∃ k, i + j = 256 + k := ⟨i + j - 256, by omega⟩
      have hw := hI.1 k (by omega)
      refine lv_aload hx hb dX1_multiply_97 (lv_at hl 5 rfl) ?_
      refine lv_iload hx hb dX1_multiply_99 (lv_at hl 6 rfl) ?_
      refine lv_iload hx hb dX1_multiply_101 (lv_at hl 7 rfl) ?_
      refine vn_iadd hx hb dX1_multiply_103 ?_
      refine lv_sipush (v := nI 256) hx hb dX1_multiply_104 (by decide) ?_
      refine vn_isub (z := k) hx hb ek dX1_multiply_107 ?_
      refine lv_aload hx hb dX1_multiply_108 (lv_at hl 5 rfl) ?_
      refine lv_iload hx hb dX1_multiply_110 (lv_at hl 6 rfl) ?_
      refine lv_iload hx hb dX1_multiply_112 (lv_at hl 7 rfl) ?_
      refine vn_iadd hx hb dX1_multiply_114 ?_
      refine lv_sipush (v := nI 256) hx hb dX1_multiply_115 (by decide) ?_
      refine vn_isub (z := k) hx hb ek dX1_multiply_118 ?_
      refine vn_iald hx hb hK.1 hP 6 0 rfl rfl (by omega) (by decide) dX1_multiply_119 ?_
      refine lv_ldc hx hb hown (hts _ q181) dX1_multiply_120 ?_
      refine lv_iadd hx hb dX1_multiply_122 ?_
      refine lv_iload hx hb dX1_multiply_123 (lv_at hl 0 rfl) ?_
      refine lv_isub hx hb dX1_multiply_125 ?_
      refine lv_ldc hx hb hown (hts _ q181) dX1_multiply_126 ?_
      refine lv_irem hx hb dX1_multiply_128 (by decide) ?_
      refine lv_topi (fun y ey => ?_)
      have ev : y.toInt = ((w k).toInt + 8380417 - v_59.toInt) % 8380417 := by rw [ey]; exact mhi hw x0 x1
      refine vn_iast hx hb hK.1 hP hD hS 6 0 rfl rfl (by omega) (by decide) dX1_multiply_129 (fun H locs hP hD hS => ?_)
      refine lv_iinc (v := nI (j + 1)) (lv' := [(6, .int (nI (j + 1))), (7, .int v_59), (0, .ref o), (1, .int r1), (2, .int r2), (3, .int r3), (4, .ref z), (5, .int (nI i))]) hx hb dX1_multiply_130 hl (k := 7) rfl (nI_1 j) (by decide) rfl (fun ls hl => ?_)
      refine lv_goto (tgt := 21) hx hb dX1_multiply_133 (by decide) ?_
      exact ih (j + 1) (upd w k y) H locs ls (by omega) (mInv_hi hI ek (by omega) ex ev) hP hD hS (lv_sub hl [2, 3, 4, 5, 6, 7, 0] rfl)
    · have hw := hI.1 (i + j) c_69
      refine lv_aload hx hb dX1_multiply_72 (lv_at hl 5 rfl) ?_
      refine lv_iload hx hb dX1_multiply_74 (lv_at hl 6 rfl) ?_
      refine lv_iload hx hb dX1_multiply_76 (lv_at hl 7 rfl) ?_
      refine vn_iadd hx hb dX1_multiply_78 ?_
      refine lv_aload hx hb dX1_multiply_79 (lv_at hl 5 rfl) ?_
      refine lv_iload hx hb dX1_multiply_81 (lv_at hl 6 rfl) ?_
      refine lv_iload hx hb dX1_multiply_83 (lv_at hl 7 rfl) ?_
      refine vn_iadd hx hb dX1_multiply_85 ?_
      refine vn_iald hx hb hK.1 hP 6 0 rfl rfl c_69 (by decide) dX1_multiply_86 ?_
      refine lv_iload hx hb dX1_multiply_87 (lv_at hl 0 rfl) ?_
      refine lv_iadd hx hb dX1_multiply_89 ?_
      refine lv_ldc hx hb hown (hts _ q181) dX1_multiply_90 ?_
      refine lv_irem hx hb dX1_multiply_92 (by decide) ?_
      refine lv_topi (fun y ey => ?_)
      have ev : y.toInt = ((w (i + j)).toInt + v_59.toInt) % 8380417 := by rw [ey]; exact mlo hw x0 x1
      refine vn_iast hx hb hK.1 hP hD hS 6 0 rfl rfl c_69 (by decide) dX1_multiply_93 (fun H locs hP hD hS => ?_)
      refine lv_goto (tgt := 130) hx hb dX1_multiply_94 (by decide) ?_
      refine lv_iinc (v := nI (j + 1)) (lv' := [(6, .int (nI (j + 1))), (7, .int v_59), (0, .ref o), (1, .int r1), (2, .int r2), (3, .int r3), (4, .ref z), (5, .int (nI i))]) hx hb dX1_multiply_130 hl (k := 7) rfl (nI_1 j) (by decide) rfl (fun ls hl => ?_)
      refine lv_goto (tgt := 21) hx hb dX1_multiply_133 (by decide) ?_
      exact ih (j + 1) (upd w (i + j) y) H locs ls (by omega) (mInv_lo hI c_69 ex ev) hP hD hS (lv_sub hl [2, 3, 4, 5, 6, 7, 0] rfl)
set_option maxHeartbeats 4000000 in
set_option maxRecDepth 100000 in
theorem mmu_out (F : CallFix p m c cX1_multiply 8 s args lw_all RX1) (hK : gK (dC, dI) vwCl cG cI s) {ad : Nat → Nat} {M : Nat → Nat → Int32} (hM : gOk M) {r1 r2 r3 : Int32} {z : Nat}
    (kk : ∀ (w : Nat → Int32) (H : Heap) (locs : List Loc) (ls : Array Slot), mInv M r2 r3 w 256 0 → va_P (dC, dI) vwCl (gW 1 o g cG cI ad (M) [(z, .inl (cI, 256, .inl w))]) H → va_D A (gW 1 o g cG cI ad (M) [(z, .inl (cI, 256, .inl w))]) → va_S A s.heap H locs → lv_has ls 8 [(0, .ref o), (1, .int r1), (2, .int r2), (3, .int r3), (4, .ref z)] → W p l e R s m args below meth c H locs 1 256 Q (F0 m 142 ls [])) :
    ∀ (d i : Nat) (w : Nat → Int32) (H : Heap) (locs : List Loc) (ls : Array Slot), i + d = 256 → mInv M r2 r3 w i 0 → va_P (dC, dI) vwCl (gW 1 o g cG cI ad (M) [(z, .inl (cI, 256, .inl w))]) H → va_D A (gW 1 o g cG cI ad (M) [(z, .inl (cI, 256, .inl w))]) → va_S A s.heap H locs → lv_has ls 8 [(0, .ref o), (1, .int r1), (2, .int r2), (3, .int r3), (4, .ref z), (5, .int (nI i))] → W p l e R s m args below meth c H locs 1 256 Q (F0 m 10 ls []) := by
  obtain ⟨hx, hb, hml, hown, hts⟩ := id F
  intro d
  induction d with
  | zero =>
    intro i w H locs ls hj hI hP hD hS hl
    have ej : i = 256 := by omega
    subst ej
    refine lv_iload hx hb dX1_multiply_10 (lv_at hl 5 rfl) ?_
    refine lv_sipush (v := nI 256) hx hb dX1_multiply_12 (by decide) ?_
    refine vn_ge (tgt := 142) hx hb (by decide) (by decide) dX1_multiply_15 (by decide) (fun _ => ?_) (fun c_8 => absurd c_8 (by decide))
    exact kk w H locs ls hI hP hD hS (lv_sub hl [0, 1, 2, 3, 4] rfl)
  | succ d ih =>
    intro i w H locs ls hj hI hP hD hS hl
    refine lv_iload hx hb dX1_multiply_10 (lv_at hl 5 rfl) ?_
    refine lv_sipush (v := nI 256) hx hb dX1_multiply_12 (by decide) ?_
    refine vn_ge (tgt := 142) hx hb (by omega) (by decide) dX1_multiply_15 (by decide) (fun c_8 => absurd c_8 (by omega)) (fun c_8 => ?_)
    refine lv_iconst (v := nI 0) hx hb dX1_multiply_18 (by decide) ?_
    refine lv_istore (lv' := [(6, .int (nI 0)), (0, .ref o), (1, .int r1), (2, .int r2), (3, .int r3), (4, .ref z), (5, .int (nI i))]) hx hb dX1_multiply_19 hl (by decide) rfl (fun ls hl => ?_)
    refine mmu_in F hK hM c_8 (fun w H locs ls hI hP hD hS hl => ?_) 256 0 w H locs ls rfl hI hP hD hS (lv_sub hl [1, 2, 3, 4, 5, 6, 0] rfl)
    refine lv_iinc (v := nI (i + 1)) (lv' := [(5, .int (nI (i + 1))), (0, .ref o), (1, .int r1), (2, .int r2), (3, .int r3), (4, .ref z)]) hx hb dX1_multiply_136 hl (k := 5) rfl (nI_1 i) (by decide) rfl (fun ls hl => ?_)
    refine lv_goto (tgt := 10) hx hb dX1_multiply_139 (by decide) ?_
    exact ih (i + 1) w H locs ls (by omega) (mInv_n hI) hP hD hS (lv_sub hl [1, 2, 3, 4, 5, 0] rfl)
end MMU
set_option maxHeartbeats 4000000 in
set_option maxRecDepth 100000 in
theorem metX1_multiply (l : Launch) (dC : Nat → ClassId) (dI : Nat → Nat → Nat) (o g : Nat) (cG cI : ClassId) (ad : Nat → Nat) (M : Nat → Nat → Int32) (sz : Nat) (hM : gOk M) (r1 r2 r3 : Int32) : Met l yX1_multiply (ws_ yX1_multiply cX1_multiply 8 (none)) ({ frames := 0, cells := 1, slots := 256, locals := 0 }) (va_Pc [.ref o, .int r1, .int r2, .int r3] (fun U => gPre dC dI 1 o g cG cI ad M sz U)) (va_Qv (fun u : (Nat → Nat) × (Nat → Nat → Int32) => ∃ w, u.2 = va_up M (j3 r1) w ∧ mulP M r2 r3 w) (gPos dC dI 1 o g cG cI (va_A (gW 1 o g cG cI ad M []) sz)) (va_A (gW 1 o g cG cI ad M []) sz)) 1 256 (va_A (gW 1 o g cG cI ad M []) sz) := by

  refine Met.ofW (cc := cX1_multiply) (maxL := 8) (ret := none) (by decide) rfl ?_
  intro p e s m args below meth c s₁ B hml hv
  obtain ⟨rfl, hsz, hP, hK, hD0⟩ := hv
  have hx := B.exec
  have hb := B.bytes
  have hr := B.returns
  have hts := atoms_spec (ws := ws_ yX1_multiply cX1_multiply 8 (none)) B.pre
  have hts : ∀ w ∈ lw_all, w.before _ s = true := fun w h => hts w (List.mem_cons_of_mem _ h)
  have hown : s.vm.findClass RX1 = some m.cls := findClass_of_methodNamed B.named
  have hlocks := B.notSynchronized
  subst hsz
  have hD := hD0.self (sz := s.heap.size)
  generalize hAe : va_A (gW 1 o g cG cI ad M []) s.heap.size = A at hD ⊢
  have hA : ∀ q : Nat, s.heap.size ≤ q → A q := fun q h => by rw [← hAe]; exact Or.inr h
  have hS : va_S A s.heap s.heap [] := va_S.rf
  have hl := lv_entry ([.ref o, .int r1, .int r2, .int r3]) (n := 8) (Nat.le_of_ble_eq_true rfl)
  rw [lg_entry_eq]
  generalize (lg_sl ([.ref o, .int r1, .int r2, .int r3]) ++ List.replicate (8 - (lg_sl ([.ref o, .int r1, .int r2, .int r3])).length) Slot.unset).toArray = ls at hl ⊢
  have hl : lv_has ls 8 [(0, .ref o), (1, .int r1), (2, .int r2), (3, .int r3)] := hl
  refine lv_sipush (v := 256) hx hb dX1_multiply_0 (by decide) ?_
  refine vg_newa hx hb (hts _ q24) 0 rfl hK.1 hP hD hS hA (Nat.le_of_ble_eq_true rfl) (Nat.le_of_ble_eq_true rfl) dX1_multiply_3 (fun z H hP hD hS => ?_)
  refine lv_astore (lv' := [(4, .ref z), (0, .ref o), (1, .int r1), (2, .int r2), (3, .int r3)]) hx hb dX1_multiply_5 hl (by decide) rfl (fun ls hl => ?_)
  refine lv_iconst (v := nI 0) hx hb dX1_multiply_7 (by decide) ?_
  refine lv_istore (lv' := [(5, .int (nI 0)), (4, .ref z), (0, .ref o), (1, .int r1), (2, .int r2), (3, .int r3)]) hx hb dX1_multiply_8 hl (by decide) rfl (fun ls hl => ?_)
  refine mmu_out ⟨hx, hb, hml, hown, hts⟩ hK hM (fun w H locs ls hI hP hD hS hl => ?_) 256 0 (fun _ => 0) H [] ls rfl (mInv_0 _ _ _) hP hD hS (lv_sub hl [2, 3, 4, 5, 1, 0] rfl)
  refine lv_aload_n hx hb dX1_multiply_142 rfl (lv_at hl 0 rfl) ?_
  refine va_get (D := (dC, dI)) (ci := 1) (v := .ref g) (C := RX1) (T := TX1) (N := 1) hx hb hts in_X1 hown hK.1 hP 0 rfl rfl 0 (by decide) (hts _ q172) (fun _ h9 => h9) rfl dX1_multiply_143 ?_
  refine lv_iload_n hx hb dX1_multiply_146 rfl (lv_at hl 1 rfl) ?_
  refine lv_iconst (v := 3) hx hb dX1_multiply_147 (by decide) ?_
  refine lv_iand hx hb dX1_multiply_148 ?_
  refine lv_aload hx hb dX1_multiply_149 (lv_at hl 4 rfl) ?_
  refine vg_ast hx hb hK.2 hP hD hS 1 6 rfl rfl (in3 r1) dX1_multiply_151 (fun H locs hP hD hS => ?_)
  have hP := gW_swapP (j3_lt r1) hP
  have hD := gW_swapD (j3_lt r1) hD
  exact W.vret hx hb hr (fun T hT hW => ⟨⟨(va_up ad (j3 r1) z, va_up M (j3 r1) w), rfl, ⟨w, rfl, mInv_e hI⟩, by rw [hT]; exact hP, hD⟩, hS.F hT⟩) hS.2.2 dX1_multiply_152
end
section
/-! HintRing.multiply (printed by gen/g19.py) -/
/-- the product of two transformed places, reduced -/
theorem hmu_pr (x y : Int32) (h1 : -75423753 ≤ x.toInt) (h2 : x.toInt ≤ 75423753) (h3 : -75423753 ≤ y.toInt) (h4 : y.toInt ≤ 75423753) : cg (montJ (x.toInt64 * y.toInt64)).toInt (x.toInt * y.toInt * 8265825) ∧ -8380417 ≤ (montJ (x.toInt64 * y.toInt64)).toInt ∧ (montJ (x.toInt64 * y.toInt64)).toInt ≤ 8380417 := by
  have hp := ar_prod (x := x.toInt) (y := y.toInt) (A := 75423753) (B := 75423753) (by omega) (by omega) (by omega) (by omega)
  have e : (x.toInt64 * y.toInt64).toInt = x.toInt * y.toInt := by
    rw [ar_mul64 (by rw [Int32.toInt_toInt64, Int32.toInt_toInt64]; omega) (by rw [Int32.toInt_toInt64, Int32.toInt_toInt64]; omega), Int32.toInt_toInt64, Int32.toInt_toInt64]
  have h := mont_spec (x.toInt64 * y.toInt64) (by rw [e]; omega) (by rw [e]; omega)
  rw [e] at h
  exact h
section HMU
variable {p : Program} {l : Launch} {e : Env} {R : Room} {s : State} {m : MethodId} {args : Array Value} {below : List Frame} {meth : Method} {c : Code} {Q : State → Prop} {dC : Nat → ClassId} {dI : Nat → Nat → Nat} {A : Nat → Prop} {o g t : Nat} {cG cI : ClassId}
set_option maxHeartbeats 4000000 in
set_option maxRecDepth 100000 in
theorem hmu1 (F : CallFix p m c cX0_multiply 8 s args lw_all RX0) (hK : gK (dC, dI) vwCl cG cI s)  {ad : Nat → Nat} {M : Nat → Nat → Int32} {r1 r2 r3 : Int32} {a1 b1 z1 : Nat}
    (kk : ∀ (fa fb : Nat → Int32) (H : Heap) (locs : List Loc) (ls : Array Slot), (∀ k, k < 256 → fa k = M (j3 r2) k ∧ fb k = M (j3 r3) k) → va_P (dC, dI) vwCl (gW 0 o g cG cI ad (M) [(a1, .inl (cI, 256, .inl fa)), (b1, .inl (cI, 256, .inl fb)), (z1, .inl (cI, 256, .inl (fun _ => 0)))]) H → va_D A (gW 0 o g cG cI ad (M) [(a1, .inl (cI, 256, .inl fa)), (b1, .inl (cI, 256, .inl fb)), (z1, .inl (cI, 256, .inl (fun _ => 0)))]) → va_S A s.heap H locs → lv_has ls 8 [(0, .ref o), (1, .int r1), (2, .int r2), (3, .int r3), (4, .ref a1), (5, .ref b1), (6, .ref z1)] → W p l e R s m args below meth c H locs 3 768 Q (F0 m 70 ls [])) :
    ∀ (d i : Nat) (fa fb : Nat → Int32) (H : Heap) (locs : List Loc) (ls : Array Slot), i + d = 256 → (∀ k, k < i → fa k = M (j3 r2) k ∧ fb k = M (j3 r3) k) → va_P (dC, dI) vwCl (gW 0 o g cG cI ad (M) [(a1, .inl (cI, 256, .inl fa)), (b1, .inl (cI, 256, .inl fb)), (z1, .inl (cI, 256, .inl (fun _ => 0)))]) H → va_D A (gW 0 o g cG cI ad (M) [(a1, .inl (cI, 256, .inl fa)), (b1, .inl (cI, 256, .inl fb)), (z1, .inl (cI, 256, .inl (fun _ => 0)))]) → va_S A s.heap H locs → lv_has ls 8 [(0, .ref o), (1, .int r1), (2, .int r2), (3, .int r3), (4, .ref a1), (5, .ref b1), (6, .ref z1), (7, .int (nI i))] → W p l e R s m args below meth c H locs 3 768 Q (F0 m 24 ls []) := by
  obtain ⟨hx, hb, hml, hown, hts⟩ := id F
  intro d
  induction d with
  | zero =>
    intro i fa fb H locs ls hj hI hP hD hS hl
    have ej : i = 256 := by omega
    subst ej
    refine lv_iload hx hb dX0_multiply_24 (lv_at hl 7 rfl) ?_
    refine lv_sipush (v := nI 256) hx hb dX0_multiply_26 (by decide) ?_
    refine vn_ge (tgt := 70) hx hb (by decide) (by decide) dX0_multiply_29 (by decide) (fun _ => ?_) (fun c_8 => absurd c_8 (by decide))
    exact kk fa fb H locs ls hI hP hD hS (lv_sub hl [0, 1, 2, 3, 4, 5, 6] rfl)
  | succ d ih =>
    intro i fa fb H locs ls hj hI hP hD hS hl
    refine lv_iload hx hb dX0_multiply_24 (lv_at hl 7 rfl) ?_
    refine lv_sipush (v := nI 256) hx hb dX0_multiply_26 (by decide) ?_
    refine vn_ge (tgt := 70) hx hb (by omega) (by decide) dX0_multiply_29 (by decide) (fun c_8 => absurd c_8 (by omega)) (fun c_8 => ?_)
    refine lv_aload hx hb dX0_multiply_32 (lv_at hl 4 rfl) ?_
    refine lv_iload hx hb dX0_multiply_34 (lv_at hl 7 rfl) ?_
    refine lv_aload_n hx hb dX0_multiply_36 rfl (lv_at hl 0 rfl) ?_
    refine va_get (D := (dC, dI)) (ci := 0) (v := .ref g) (C := RX0) (T := TX0) (N := 1) hx hb hts in_X0 hown hK.1 hP 0 rfl rfl 0 (by decide) (hts _ q20) (fun _ h9 => h9) rfl dX0_multiply_37 ?_
    refine lv_iload_n hx hb dX0_multiply_40 rfl (lv_at hl 2 rfl) ?_
    refine lv_iconst (v := 3) hx hb dX0_multiply_41 (by decide) ?_
    refine lv_iand hx hb dX0_multiply_42 ?_
    refine vg_ald (y := ad (j3 r2)) hx hb hK.1 hP 1 1 rfl rfl (in3 r2) rfl dX0_multiply_43 ?_
    refine lv_iload hx hb dX0_multiply_44 (lv_at hl 7 rfl) ?_
    refine vn_iald hx hb hK.1 hP (2 + j3 r2) 0 (gW_row (j3_lt r2)) rfl c_8 (by decide) dX0_multiply_46 ?_
    refine vn_iast hx hb hK.1 hP hD hS 6 0 rfl rfl c_8 (by decide) dX0_multiply_47 (fun H locs hP hD hS => ?_)
    have hP : va_P (dC, dI) vwCl (gW 0 o g cG cI ad M [(a1, .inl (cI, 256, .inl (upd fa i (M (j3 r2) i)))), (b1, .inl (cI, 256, .inl fb)), (z1, .inl (cI, 256, .inl (fun _ => 0)))]) H := hP
    have hD : va_D A (gW 0 o g cG cI ad M [(a1, .inl (cI, 256, .inl (upd fa i (M (j3 r2) i)))), (b1, .inl (cI, 256, .inl fb)), (z1, .inl (cI, 256, .inl (fun _ => 0)))]) := hD
    refine lv_aload hx hb dX0_multiply_48 (lv_at hl 5 rfl) ?_
    refine lv_iload hx hb dX0_multiply_50 (lv_at hl 7 rfl) ?_
    refine lv_aload_n hx hb dX0_multiply_52 rfl (lv_at hl 0 rfl) ?_
    refine va_get (D := (dC, dI)) (ci := 0) (v := .ref g) (C := RX0) (T := TX0) (N := 1) hx hb hts in_X0 hown hK.1 hP 0 rfl rfl 0 (by decide) (hts _ q20) (fun _ h9 => h9) rfl dX0_multiply_53 ?_
    refine lv_iload_n hx hb dX0_multiply_56 rfl (lv_at hl 3 rfl) ?_
    refine lv_iconst (v := 3) hx hb dX0_multiply_57 (by decide) ?_
    refine lv_iand hx hb dX0_multiply_58 ?_
    refine vg_ald (y := ad (j3 r3)) hx hb hK.1 hP 1 1 rfl rfl (in3 r3) rfl dX0_multiply_59 ?_
    refine lv_iload hx hb dX0_multiply_60 (lv_at hl 7 rfl) ?_
    refine vn_iald hx hb hK.1 hP (2 + j3 r3) 0 (gW_row (j3_lt r3)) rfl c_8 (by decide) dX0_multiply_62 ?_
    refine vn_iast hx hb hK.1 hP hD hS 7 0 rfl rfl c_8 (by decide) dX0_multiply_63 (fun H locs hP hD hS => ?_)
    refine lv_iinc (v := nI (i + 1)) (lv' := [(7, .int (nI (i + 1))), (0, .ref o), (1, .int r1), (2, .int r2), (3, .int r3), (4, .ref a1), (5, .ref b1), (6, .ref z1)]) hx hb dX0_multiply_64 hl (k := 7) rfl (nI_1 i) (by decide) rfl (fun ls hl => ?_)
    refine lv_goto (tgt := 24) hx hb dX0_multiply_67 (by decide) ?_
    refine ih (i + 1) (upd fa i (M (j3 r2) i)) (upd fb i (M (j3 r3) i)) H locs ls (by omega) (fun k hk => ?_) hP hD hS (lv_sub hl [1, 2, 3, 4, 5, 6, 7, 0] rfl)
    by_cases q : k = i
    · subst q
      exact ⟨pk_us, pk_us⟩
    · rw [pk_un q, pk_un q]
      exact hI k (by omega)
set_option maxHeartbeats 4000000 in
set_option maxRecDepth 100000 in
theorem hmu2 (F : CallFix p m c cX0_multiply 8 s args lw_all RX0) (hK : gK (dC, dI) vwCl cG cI s) (hR : 1 ≤ R.frames ∧ 22 ≤ R.locals) (hR2 : 3 ≤ R.cells ∧ 768 ≤ R.slots) {fa fb : Nat → Int32} {ad : Nat → Nat} {M : Nat → Nat → Int32} {r1 r2 r3 : Int32} {a1 b1 z1 : Nat}
    (kk : ∀ (w : Nat → Int32) (H : Heap) (locs : List Loc) (ls : Array Slot), (∀ k, k < 256 → w k = montJ ((fa k).toInt64 * (fb k).toInt64)) → va_P (dC, dI) vwCl (gW 0 o g cG cI ad (M) [(a1, .inl (cI, 256, .inl fa)), (b1, .inl (cI, 256, .inl fb)), (z1, .inl (cI, 256, .inl w))]) H → va_D A (gW 0 o g cG cI ad (M) [(a1, .inl (cI, 256, .inl fa)), (b1, .inl (cI, 256, .inl fb)), (z1, .inl (cI, 256, .inl w))]) → va_S A s.heap H locs → lv_has ls 8 [(0, .ref o), (1, .int r1), (2, .int r2), (3, .int r3), (4, .ref a1), (5, .ref b1), (6, .ref z1)] → W p l e R s m args below meth c H locs 3 768 Q (F0 m 118 ls [])) :
    ∀ (d i : Nat) (w : Nat → Int32) (H : Heap) (locs : List Loc) (ls : Array Slot), i + d = 256 → (∀ k, k < i → w k = montJ ((fa k).toInt64 * (fb k).toInt64)) → va_P (dC, dI) vwCl (gW 0 o g cG cI ad (M) [(a1, .inl (cI, 256, .inl fa)), (b1, .inl (cI, 256, .inl fb)), (z1, .inl (cI, 256, .inl w))]) H → va_D A (gW 0 o g cG cI ad (M) [(a1, .inl (cI, 256, .inl fa)), (b1, .inl (cI, 256, .inl fb)), (z1, .inl (cI, 256, .inl w))]) → va_S A s.heap H locs → lv_has ls 8 [(0, .ref o), (1, .int r1), (2, .int r2), (3, .int r3), (4, .ref a1), (5, .ref b1), (6, .ref z1), (7, .int (nI i))] → W p l e R s m args below meth c H locs 3 768 Q (F0 m 83 ls []) := by
  obtain ⟨hx, hb, hml, hown, hts⟩ := id F
  intro d
  induction d with
  | zero =>
    intro i w H locs ls hj hI hP hD hS hl
    have ej : i = 256 := by omega
    subst ej
    refine lv_iload hx hb dX0_multiply_83 (lv_at hl 7 rfl) ?_
    refine lv_sipush (v := nI 256) hx hb dX0_multiply_85 (by decide) ?_
    refine vn_ge (tgt := 118) hx hb (by decide) (by decide) dX0_multiply_88 (by decide) (fun _ => ?_) (fun c_8 => absurd c_8 (by decide))
    exact kk w H locs ls hI hP hD hS (lv_sub hl [0, 1, 2, 3, 4, 5, 6] rfl)
  | succ d ih =>
    intro i w H locs ls hj hI hP hD hS hl
    refine lv_iload hx hb dX0_multiply_83 (lv_at hl 7 rfl) ?_
    refine lv_sipush (v := nI 256) hx hb dX0_multiply_85 (by decide) ?_
    refine vn_ge (tgt := 118) hx hb (by omega) (by decide) dX0_multiply_88 (by decide) (fun c_8 => absurd c_8 (by omega)) (fun c_8 => ?_)
    refine lv_aload hx hb dX0_multiply_91 (lv_at hl 6 rfl) ?_
    refine lv_iload hx hb dX0_multiply_93 (lv_at hl 7 rfl) ?_
    refine lv_aload hx hb dX0_multiply_95 (lv_at hl 4 rfl) ?_
    refine lv_iload hx hb dX0_multiply_97 (lv_at hl 7 rfl) ?_
    refine vn_iald hx hb hK.1 hP 6 0 rfl rfl c_8 (by decide) dX0_multiply_99 ?_
    refine lv_i2l hx hb dX0_multiply_100 rfl ?_
    refine lv_aload hx hb dX0_multiply_101 (lv_at hl 5 rfl) ?_
    refine lv_iload hx hb dX0_multiply_103 (lv_at hl 7 rfl) ?_
    refine vn_iald hx hb hK.1 hP 7 0 rfl rfl c_8 (by decide) dX0_multiply_105 ?_
    refine lv_i2l hx hb dX0_multiply_106 rfl ?_
    refine lv_lmul hx hb dX0_multiply_107 ?_
    refine lv_topl (fun y ey => ?_)
    refine vp_callSi (va_Run.run (va_runS (As := [.long y]) (rest := [.int (nI i), .ref z1]) ⟨hx, hb, hml, hown, hts⟩ (metX3_montgomeryReduce l y) (va_cwS 1 hts (lw_S q52 q48 q5 q49) rfl rfl rfl (by decide +kernel) hR) ⟨fun _ _ _ _ q => q, fun U hU hW => ⟨rfl, trivial⟩⟩ rfl rfl hl.1 rfl (lv_room (Nat.le_of_ble_eq_true rfl)) dX0_multiply_108 hR2)) (fun r hr => ?_)
    refine vn_iast hx hb hK.1 hP hD hS 8 0 rfl rfl c_8 (by decide) dX0_multiply_111 (fun H locs hP hD hS => ?_)
    refine lv_iinc (v := nI (i + 1)) (lv' := [(7, .int (nI (i + 1))), (0, .ref o), (1, .int r1), (2, .int r2), (3, .int r3), (4, .ref a1), (5, .ref b1), (6, .ref z1)]) hx hb dX0_multiply_112 hl (k := 7) rfl (nI_1 i) (by decide) rfl (fun ls hl => ?_)
    refine lv_goto (tgt := 83) hx hb dX0_multiply_115 (by decide) ?_
    refine ih (i + 1) (upd w i r) H locs ls (by omega) (fun k hk => ?_) hP hD hS (lv_sub hl [1, 2, 3, 4, 5, 6, 7, 0] rfl)
    by_cases q : k = i
    · subst q
      rw [pk_us, hr, ey]
    · rw [pk_un q]
      exact hI k (by omega)
set_option maxHeartbeats 4000000 in
set_option maxRecDepth 100000 in
theorem hmu3 (F : CallFix p m c cX0_multiply 8 s args lw_all RX0) (hK : gK (dC, dI) vwCl cG cI s) (hR : 2 ≤ R.frames ∧ 41 ≤ R.locals) (hR2 : 3 ≤ R.cells ∧ 768 ≤ R.slots) {fa fb f : Nat → Int32} {ad : Nat → Nat} {M : Nat → Nat → Int32} {r1 r2 r3 : Int32} {a1 b1 z1 : Nat}
    (kk : ∀ (w : Nat → Int32) (H : Heap) (locs : List Loc) (ls : Array Slot), (∀ k, k < 256 → (k < 256 → w k = wholeJ (f k)) ∧ (¬ k < 256 → w k = f k)) → va_P (dC, dI) vwCl (gW 0 o g cG cI ad (M) [(a1, .inl (cI, 256, .inl fa)), (b1, .inl (cI, 256, .inl fb)), (z1, .inl (cI, 256, .inl w))]) H → va_D A (gW 0 o g cG cI ad (M) [(a1, .inl (cI, 256, .inl fa)), (b1, .inl (cI, 256, .inl fb)), (z1, .inl (cI, 256, .inl w))]) → va_S A s.heap H locs → lv_has ls 8 [(0, .ref o), (1, .int r1), (2, .int r2), (3, .int r3), (4, .ref a1), (5, .ref b1), (6, .ref z1)] → W p l e R s m args below meth c H locs 3 768 Q (F0 m 153 ls [])) :
    ∀ (d i : Nat) (w : Nat → Int32) (H : Heap) (locs : List Loc) (ls : Array Slot), i + d = 256 → (∀ k, k < 256 → (k < i → w k = wholeJ (f k)) ∧ (¬ k < i → w k = f k)) → va_P (dC, dI) vwCl (gW 0 o g cG cI ad (M) [(a1, .inl (cI, 256, .inl fa)), (b1, .inl (cI, 256, .inl fb)), (z1, .inl (cI, 256, .inl w))]) H → va_D A (gW 0 o g cG cI ad (M) [(a1, .inl (cI, 256, .inl fa)), (b1, .inl (cI, 256, .inl fb)), (z1, .inl (cI, 256, .inl w))]) → va_S A s.heap H locs → lv_has ls 8 [(0, .ref o), (1, .int r1), (2, .int r2), (3, .int r3), (4, .ref a1), (5, .ref b1), (6, .ref z1), (7, .int (nI i))] → W p l e R s m args below meth c H locs 3 768 Q (F0 m 126 ls []) := by
  obtain ⟨hx, hb, hml, hown, hts⟩ := id F
  intro d
  induction d with
  | zero =>
    intro i w H locs ls hj hI hP hD hS hl
    have ej : i = 256 := by omega
    subst ej
    refine lv_iload hx hb dX0_multiply_126 (lv_at hl 7 rfl) ?_
    refine lv_sipush (v := nI 256) hx hb dX0_multiply_128 (by decide) ?_
    refine vn_ge (tgt := 153) hx hb (by decide) (by decide) dX0_multiply_131 (by decide) (fun _ => ?_) (fun c_8 => absurd c_8 (by decide))
    exact kk w H locs ls hI hP hD hS (lv_sub hl [0, 1, 2, 3, 4, 5, 6] rfl)
  | succ d ih =>
    intro i w H locs ls hj hI hP hD hS hl
    refine lv_iload hx hb dX0_multiply_126 (lv_at hl 7 rfl) ?_
    refine lv_sipush (v := nI 256) hx hb dX0_multiply_128 (by decide) ?_
    refine vn_ge (tgt := 153) hx hb (by omega) (by decide) dX0_multiply_131 (by decide) (fun c_8 => absurd c_8 (by omega)) (fun c_8 => ?_)
    refine lv_aload hx hb dX0_multiply_134 (lv_at hl 6 rfl) ?_
    refine lv_iload hx hb dX0_multiply_136 (lv_at hl 7 rfl) ?_
    refine lv_aload hx hb dX0_multiply_138 (lv_at hl 6 rfl) ?_
    refine lv_iload hx hb dX0_multiply_140 (lv_at hl 7 rfl) ?_
    refine vn_iald hx hb hK.1 hP 8 0 rfl rfl c_8 (by decide) dX0_multiply_142 ?_
    refine lv_topi (fun y ey => ?_)
    refine vp_callSi (va_Run.run (va_runS (As := [.int y]) (rest := [.int (nI i), .ref z1]) ⟨hx, hb, hml, hown, hts⟩ (metX0_whole l y) (va_cwS 1 hts (lw_S q57 q58 q2 q59) rfl rfl rfl (by decide +kernel) hR) ⟨fun _ _ _ _ q => q, fun U hU hW => ⟨rfl, trivial⟩⟩ rfl rfl hl.1 rfl (lv_room (Nat.le_of_ble_eq_true rfl)) dX0_multiply_143 hR2)) (fun r hr => ?_)
    refine vn_iast hx hb hK.1 hP hD hS 8 0 rfl rfl c_8 (by decide) dX0_multiply_146 (fun H locs hP hD hS => ?_)
    refine lv_iinc (v := nI (i + 1)) (lv' := [(7, .int (nI (i + 1))), (0, .ref o), (1, .int r1), (2, .int r2), (3, .int r3), (4, .ref a1), (5, .ref b1), (6, .ref z1)]) hx hb dX0_multiply_147 hl (k := 7) rfl (nI_1 i) (by decide) rfl (fun ls hl => ?_)
    refine lv_goto (tgt := 126) hx hb dX0_multiply_150 (by decide) ?_
    refine ih (i + 1) (upd w i r) H locs ls (by omega) (fun k hk => ?_) hP hD hS (lv_sub hl [1, 2, 3, 4, 5, 6, 7, 0] rfl)
    by_cases q : k = i
    · subst q
      rw [pk_us, hr, ey, (hI k hk).2 (Nat.lt_irrefl k)]
      exact ⟨fun _ => rfl, fun h => absurd (Nat.lt_succ_self k) h⟩
    · rw [pk_un q]
      exact ⟨fun h => (hI k hk).1 (by omega), fun h => (hI k hk).2 (by omega)⟩
end HMU
/-- the numbers of HintRing.multiply -/
theorem hmu_fin {M : Nat → Nat → Int32} {r2 r3 : Int32} {fa fb ga gb y yi z : Nat → Int32} (ha : ∀ k, k < 256 → fa k = M (j3 r2) k ∧ fb k = M (j3 r3) k) (hga : nSt fa ga 8) (hgb : nSt fb gb 8) (hy : ∀ k, k < 256 → y k = montJ ((ga k).toInt64 * (gb k).toInt64)) (hyi : invP y yi) (hz : ∀ k, k < 256 → z k = wholeJ (yi k)) : mulP M r2 r3 z := by
  intro i hi
  obtain ⟨i1, i2, i3⟩ := hyi i hi
  have e := whole_spec (yi i) (by omega)
  rw [hz i hi, e]
  have v0 := ar_m0 (yi i).toInt
  have v1 := ar_m1 (yi i).toInt
  refine ⟨v0, by omega, (cg.emod _).tr (i1.tr ?_)⟩
  have hN : ∀ j, j < 256 → cg (tI y j) (8265825 * (nt 8 (tI (M (j3 r2))) j * nt 8 (tI (M (j3 r3))) j)) := by
    intro j hj
    obtain ⟨a1, a2, a3⟩ := hga j hj
    obtain ⟨b1, b2, b3⟩ := hgb j hj
    have p := hmu_pr (ga j) (gb j) (by omega) (by omega) (by omega) (by omega)
    have n1 := nt_cg (f := tI fa) (g := tI (M (j3 r2))) (fun k hk => cg.of (by unfold tI; rw [(ha k hk).1])) 8 (by decide) j hj
    have n2 := nt_cg (f := tI fb) (g := tI (M (j3 r3))) (fun k hk => cg.of (by unfold tI; rw [(ha k hk).2])) 8 (by decide) j hj
    have q : cg ((ga j).toInt * (gb j).toInt) (nt 8 (tI (M (j3 r2))) j * nt 8 (tI (M (j3 r3))) j) := (a1.tr n1).mul (b1.tr n2)
    unfold tI at q ⊢
    rw [hy j hj]
    refine p.1.tr ((cg.mr _ q).tr (cg.of (Int.mul_comm _ _)))
  have h2 := (iv_cg hN 8 (by decide) i hi).tr (cg.of (iv_mul 8265825 _ 8 i))
  refine (cg.mr _ (cg.ml _ h2)).tr (cg.of ?_)
  unfold mulS cM
  grind
set_option maxHeartbeats 4000000 in
set_option maxRecDepth 100000 in
theorem metX0_multiply (l : Launch) (dC : Nat → ClassId) (dI : Nat → Nat → Nat) (o g : Nat) (cG cI : ClassId) (ad : Nat → Nat) (M : Nat → Nat → Int32) (sz : Nat) (t : Nat) (hM : gOk M) (r1 r2 r3 : Int32) : Met l yX0_multiply (ws_ yX0_multiply cX0_multiply 8 (none)) ({ frames := 2, cells := 3, slots := 768, locals := 48 }) (va_Pc [.ref o, .int r1, .int r2, .int r3] (fun U => gPre dC dI 0 o g cG cI ad M sz U ∧ gZ t (va_A (gW 0 o g cG cI ad M []) sz) U U.heap)) (va_Qv (fun u : (Nat → Nat) × (Nat → Nat → Int32) => ∃ w, u.2 = va_up M (j3 r1) w ∧ mulP M r2 r3 w) (gPos dC dI 0 o g cG cI (va_A (gW 0 o g cG cI ad M []) sz)) (va_A (gW 0 o g cG cI ad M []) sz)) 3 768 (va_A (gW 0 o g cG cI ad M []) sz) := by

  refine Met.ofW (cc := cX0_multiply) (maxL := 8) (ret := none) (by decide) rfl ?_
  intro p e s m args below meth c s₁ B hml hv
  obtain ⟨rfl, ⟨hsz, hP, hK, hD0⟩, hZ⟩ := hv
  have hx := B.exec
  have hb := B.bytes
  have hr := B.returns
  have hts := atoms_spec (ws := ws_ yX0_multiply cX0_multiply 8 (none)) B.pre
  have hts : ∀ w ∈ lw_all, w.before _ s = true := fun w h => hts w (List.mem_cons_of_mem _ h)
  have hown : s.vm.findClass RX0 = some m.cls := findClass_of_methodNamed B.named
  have hlocks := B.notSynchronized
  subst hsz
  have hD := hD0.self (sz := s.heap.size)
  generalize hAe : va_A (gW 0 o g cG cI ad M []) s.heap.size = A at hD hZ ⊢
  have hA : ∀ q : Nat, s.heap.size ≤ q → A q := fun q h => by rw [← hAe]; exact Or.inr h
  have hS : va_S A s.heap s.heap [] := va_S.rf
  have hl := lv_entry ([.ref o, .int r1, .int r2, .int r3]) (n := 8) (Nat.le_of_ble_eq_true rfl)
  rw [lg_entry_eq]
  generalize (lg_sl ([.ref o, .int r1, .int r2, .int r3]) ++ List.replicate (8 - (lg_sl ([.ref o, .int r1, .int r2, .int r3])).length) Slot.unset).toArray = ls at hl ⊢
  have hl : lv_has ls 8 [(0, .ref o), (1, .int r1), (2, .int r2), (3, .int r3)] := hl
  refine lv_sipush (v := 256) hx hb dX0_multiply_0 (by decide) ?_
  refine vg_newa hx hb (hts _ q24) 0 rfl hK.1 hP hD hS hA (Nat.le_of_ble_eq_true rfl) (Nat.le_of_ble_eq_true rfl) dX0_multiply_3 (fun a1 H hP hD hS => ?_)
  refine lv_astore (lv' := [(4, .ref a1), (0, .ref o), (1, .int r1), (2, .int r2), (3, .int r3)]) hx hb dX0_multiply_5 hl (by decide) rfl (fun ls hl => ?_)
  refine lv_sipush (v := 256) hx hb dX0_multiply_7 (by decide) ?_
  refine vg_newa hx hb (hts _ q24) 0 rfl hK.1 hP hD hS hA (Nat.le_of_ble_eq_true rfl) (Nat.le_of_ble_eq_true rfl) dX0_multiply_10 (fun b1 H hP hD hS => ?_)
  refine lv_astore (lv' := [(5, .ref b1), (4, .ref a1), (0, .ref o), (1, .int r1), (2, .int r2), (3, .int r3)]) hx hb dX0_multiply_12 hl (by decide) rfl (fun ls hl => ?_)
  refine lv_sipush (v := 256) hx hb dX0_multiply_14 (by decide) ?_
  refine vg_newa hx hb (hts _ q24) 0 rfl hK.1 hP hD hS hA (Nat.le_of_ble_eq_true rfl) (Nat.le_of_ble_eq_true rfl) dX0_multiply_17 (fun z1 H hP hD hS => ?_)
  refine lv_astore (lv' := [(6, .ref z1), (5, .ref b1), (4, .ref a1), (0, .ref o), (1, .int r1), (2, .int r2), (3, .int r3)]) hx hb dX0_multiply_19 hl (by decide) rfl (fun ls hl => ?_)
  refine lv_iconst (v := nI 0) hx hb dX0_multiply_21 (by decide) ?_
  refine lv_istore (lv' := [(7, .int (nI 0)), (6, .ref z1), (5, .ref b1), (4, .ref a1), (0, .ref o), (1, .int r1), (2, .int r2), (3, .int r3)]) hx hb dX0_multiply_22 hl (by decide) rfl (fun ls hl => ?_)
  have hP : va_P (dC, dI) vwCl (gW 0 o g cG cI ad M [(a1, .inl (cI, 256, .inl (fun _ => 0))), (b1, .inl (cI, 256, .inl (fun _ => 0))), (z1, .inl (cI, 256, .inl (fun _ => 0)))]) H := hP
  have hD : va_D A (gW 0 o g cG cI ad M [(a1, .inl (cI, 256, .inl (fun _ => 0))), (b1, .inl (cI, 256, .inl (fun _ => 0))), (z1, .inl (cI, 256, .inl (fun _ => 0)))]) := hD
  refine hmu1 ⟨hx, hb, hml, hown, hts⟩ hK (fun fa fb H locs ls hI hP hD hS hl => ?_) 256 0 (fun _ => 0) (fun _ => 0) H [] ls rfl (fun k hk => absurd hk (Nat.not_lt_zero _)) hP hD hS (lv_sub hl [4, 5, 6, 7, 3, 2, 1, 0] rfl)
  refine lv_aload hx hb dX0_multiply_70 (lv_at hl 4 rfl) ?_
  have hPc := hP.sub (ws' := aW a1 cI fa) [6] rfl
  have hDc := hD.sub (ws' := aW a1 cI fa) [6] (by decide) rfl
  have hFc := va_free (wc := aW a1 cI fa) hD hS hA [6] rfl
  have hZc : gZ t (va_A (aW a1 cI fa) H.size) s H := (hZ.kept hS.2.1).narrow hFc
  have hKc := hK.1.sub (tys' := [(cI, .int)]) [0] rfl
  refine va_callv (va_runS (As := [.ref a1]) (rest := []) ⟨hx, hb, hml, hown, hts⟩ (metX2_ntt l dC dI cI a1 t H.size fa (fun i hi => by rw [(hI i hi).1]; have h := hM (j3 r2) (j3_lt r2) i hi; omega)) (va_cwS 1 hts (lw_S q42 q43 q4 q44) rfl rfl rfl (by decide +kernel) ⟨Nat.le_of_ble_eq_true rfl, Nat.le_of_ble_eq_true rfl⟩) ⟨fun a U g mk q => by obtain ⟨q0, q1, qP, qK, qD, qZ⟩ := q; exact ⟨q0, q1, qP, va_K.moved (u := U) (U := U.calling g mk a) (Vm.Alike.refl U.vm) qK, qD, gZ.moved (u := U) (U := U.calling g mk a) (Vm.Alike.refl U.vm) qZ⟩, fun U hU hW => ⟨rfl, by rw [hU], by rw [hU]; exact hPc, va_K.moved hW.alike hKc, hDc.weaken (fun _ _ _ _ => trivial), by rw [hU]; exact hZc.moved hW.alike⟩⟩ rfl rfl hl.1 rfl (lv_room (Nat.le_of_ble_eq_true rfl)) dX0_multiply_72 ⟨Nat.le_of_ble_eq_true rfl, Nat.le_of_ble_eq_true rfl⟩) hS (fun q _ h => hFc q h) hFc (fun ga T H1 locs hT hvm hga hB hz1 hk1 hS => ?_)
  obtain ⟨hP1, hD1⟩ := hB
  rw [hT] at hP1
  obtain ⟨hP, hD⟩ := va_join (wr := gW 0 o g cG cI ad M [(b1, .inl (cI, 256, .inl fb)), (z1, .inl (cI, 256, .inl (fun _ => 0)))]) (w1 := aW a1 cI ga) hP hD [6] [0, 1, 2, 3, 4, 5, 7, 8] rfl rfl (by decide) (by decide) hk1 hFc hP1 hD1
  have hP := hP.sub (ws' := gW 0 o g cG cI ad M [(a1, .inl (cI, 256, .inl ga)), (b1, .inl (cI, 256, .inl fb)), (z1, .inl (cI, 256, .inl (fun _ => 0)))]) [0, 1, 2, 3, 4, 5, 8, 6, 7] rfl
  have hD := hD.sub (ws' := gW 0 o g cG cI ad M [(a1, .inl (cI, 256, .inl ga)), (b1, .inl (cI, 256, .inl fb)), (z1, .inl (cI, 256, .inl (fun _ => 0)))]) [0, 1, 2, 3, 4, 5, 8, 6, 7] (by decide) rfl
  generalize H1 = H at hP hS ⊢
  refine lv_aload hx hb dX0_multiply_75 (lv_at hl 5 rfl) ?_
  have hPc := hP.sub (ws' := aW b1 cI fb) [7] rfl
  have hDc := hD.sub (ws' := aW b1 cI fb) [7] (by decide) rfl
  have hFc := va_free (wc := aW b1 cI fb) hD hS hA [7] rfl
  have hZc : gZ t (va_A (aW b1 cI fb) H.size) s H := (hZ.kept hS.2.1).narrow hFc
  have hKc := hK.1.sub (tys' := [(cI, .int)]) [0] rfl
  refine va_callv (va_runS (As := [.ref b1]) (rest := []) ⟨hx, hb, hml, hown, hts⟩ (metX2_ntt l dC dI cI b1 t H.size fb (fun i hi => by rw [(hI i hi).2]; have h := hM (j3 r3) (j3_lt r3) i hi; omega)) (va_cwS 1 hts (lw_S q42 q43 q4 q44) rfl rfl rfl (by decide +kernel) ⟨Nat.le_of_ble_eq_true rfl, Nat.le_of_ble_eq_true rfl⟩) ⟨fun a U g mk q => by obtain ⟨q0, q1, qP, qK, qD, qZ⟩ := q; exact ⟨q0, q1, qP, va_K.moved (u := U) (U := U.calling g mk a) (Vm.Alike.refl U.vm) qK, qD, gZ.moved (u := U) (U := U.calling g mk a) (Vm.Alike.refl U.vm) qZ⟩, fun U hU hW => ⟨rfl, by rw [hU], by rw [hU]; exact hPc, va_K.moved hW.alike hKc, hDc.weaken (fun _ _ _ _ => trivial), by rw [hU]; exact hZc.moved hW.alike⟩⟩ rfl rfl hl.1 rfl (lv_room (Nat.le_of_ble_eq_true rfl)) dX0_multiply_77 ⟨Nat.le_of_ble_eq_true rfl, Nat.le_of_ble_eq_true rfl⟩) hS (fun q _ h => hFc q h) hFc (fun gb T H1 locs hT hvm hgb hB hz1 hk1 hS => ?_)
  obtain ⟨hP1, hD1⟩ := hB
  rw [hT] at hP1
  obtain ⟨hP, hD⟩ := va_join (wr := gW 0 o g cG cI ad M [(a1, .inl (cI, 256, .inl ga)), (z1, .inl (cI, 256, .inl (fun _ => 0)))]) (w1 := aW b1 cI gb) hP hD [7] [0, 1, 2, 3, 4, 5, 6, 8] rfl rfl (by decide) (by decide) hk1 hFc hP1 hD1
  have hP := hP.sub (ws' := gW 0 o g cG cI ad M [(a1, .inl (cI, 256, .inl ga)), (b1, .inl (cI, 256, .inl gb)), (z1, .inl (cI, 256, .inl (fun _ => 0)))]) [0, 1, 2, 3, 4, 5, 6, 8, 7] rfl
  have hD := hD.sub (ws' := gW 0 o g cG cI ad M [(a1, .inl (cI, 256, .inl ga)), (b1, .inl (cI, 256, .inl gb)), (z1, .inl (cI, 256, .inl (fun _ => 0)))]) [0, 1, 2, 3, 4, 5, 6, 8, 7] (by decide) rfl
  generalize H1 = H at hP hS ⊢
  refine lv_iconst (v := nI 0) hx hb dX0_multiply_80 (by decide) ?_
  refine lv_istore (lv' := [(7, .int (nI 0)), (0, .ref o), (1, .int r1), (2, .int r2), (3, .int r3), (4, .ref a1), (5, .ref b1), (6, .ref z1)]) hx hb dX0_multiply_81 hl (by decide) rfl (fun ls hl => ?_)
  refine hmu2 ⟨hx, hb, hml, hown, hts⟩ hK ⟨Nat.le_of_ble_eq_true rfl, Nat.le_of_ble_eq_true rfl⟩ ⟨Nat.le_of_ble_eq_true rfl, Nat.le_of_ble_eq_true rfl⟩ (fun y H locs ls hy hP hD hS hl => ?_) 256 0 (fun _ => 0) H locs ls rfl (fun k hk => absurd hk (Nat.not_lt_zero _)) hP hD hS (lv_sub hl [1, 2, 3, 4, 5, 6, 7, 0] rfl)
  refine lv_aload hx hb dX0_multiply_118 (lv_at hl 6 rfl) ?_
  have hPc := hP.sub (ws' := aW z1 cI y) [8] rfl
  have hDc := hD.sub (ws' := aW z1 cI y) [8] (by decide) rfl
  have hFc := va_free (wc := aW z1 cI y) hD hS hA [8] rfl
  have hZc : gZ t (va_A (aW z1 cI y) H.size) s H := (hZ.kept hS.2.1).narrow hFc
  have hKc := hK.1.sub (tys' := [(cI, .int)]) [0] rfl
  refine va_callv (va_runS (As := [.ref z1]) (rest := []) ⟨hx, hb, hml, hown, hts⟩ (metX2_inv l dC dI cI z1 t H.size y (fun i hi => by have a := hga i hi; have b := hgb i hi; rw [hy i hi]; exact (hmu_pr (ga i) (gb i) (by omega) (by omega) (by omega) (by omega)).2)) (va_cwS 1 hts (lw_S q53 q54 q4 q55) rfl rfl rfl (by decide +kernel) ⟨Nat.le_of_ble_eq_true rfl, Nat.le_of_ble_eq_true rfl⟩) ⟨fun a U g mk q => by obtain ⟨q0, q1, qP, qK, qD, qZ⟩ := q; exact ⟨q0, q1, qP, va_K.moved (u := U) (U := U.calling g mk a) (Vm.Alike.refl U.vm) qK, qD, gZ.moved (u := U) (U := U.calling g mk a) (Vm.Alike.refl U.vm) qZ⟩, fun U hU hW => ⟨rfl, by rw [hU], by rw [hU]; exact hPc, va_K.moved hW.alike hKc, hDc.weaken (fun _ _ _ _ => trivial), by rw [hU]; exact hZc.moved hW.alike⟩⟩ rfl rfl hl.1 rfl (lv_room (Nat.le_of_ble_eq_true rfl)) dX0_multiply_120 ⟨Nat.le_of_ble_eq_true rfl, Nat.le_of_ble_eq_true rfl⟩) hS (fun q _ h => hFc q h) hFc (fun yi T H1 locs hT hvm hyi hB hz1 hk1 hS => ?_)
  obtain ⟨hP1, hD1⟩ := hB
  rw [hT] at hP1
  obtain ⟨hP, hD⟩ := va_join (wr := gW 0 o g cG cI ad M [(a1, .inl (cI, 256, .inl ga)), (b1, .inl (cI, 256, .inl gb))]) (w1 := aW z1 cI yi) hP hD [8] [0, 1, 2, 3, 4, 5, 6, 7] rfl rfl (by decide) (by decide) hk1 hFc hP1 hD1
  have hP := hP.sub (ws' := gW 0 o g cG cI ad M [(a1, .inl (cI, 256, .inl ga)), (b1, .inl (cI, 256, .inl gb)), (z1, .inl (cI, 256, .inl yi))]) [0, 1, 2, 3, 4, 5, 6, 7, 8] rfl
  have hD := hD.sub (ws' := gW 0 o g cG cI ad M [(a1, .inl (cI, 256, .inl ga)), (b1, .inl (cI, 256, .inl gb)), (z1, .inl (cI, 256, .inl yi))]) [0, 1, 2, 3, 4, 5, 6, 7, 8] (by decide) rfl
  generalize H1 = H at hP hS ⊢
  refine lv_iconst (v := nI 0) hx hb dX0_multiply_123 (by decide) ?_
  refine lv_istore (lv' := [(7, .int (nI 0)), (0, .ref o), (1, .int r1), (2, .int r2), (3, .int r3), (4, .ref a1), (5, .ref b1), (6, .ref z1)]) hx hb dX0_multiply_124 hl (by decide) rfl (fun ls hl => ?_)
  refine hmu3 ⟨hx, hb, hml, hown, hts⟩ hK ⟨Nat.le_of_ble_eq_true rfl, Nat.le_of_ble_eq_true rfl⟩ ⟨Nat.le_of_ble_eq_true rfl, Nat.le_of_ble_eq_true rfl⟩ (f := yi) (fun w H locs ls hw hP hD hS hl => ?_) 256 0 yi H locs ls rfl (fun k hk => ⟨fun h => absurd h (Nat.not_lt_zero _), fun _ => rfl⟩) hP hD hS (lv_sub hl [1, 2, 3, 4, 5, 6, 7, 0] rfl)
  have hP := hP.sub (ws' := gW 0 o g cG cI ad M [(z1, .inl (cI, 256, .inl w))]) [0, 1, 2, 3, 4, 5, 8] rfl
  have hD := hD.sub (ws' := gW 0 o g cG cI ad M [(z1, .inl (cI, 256, .inl w))]) [0, 1, 2, 3, 4, 5, 8] (by decide) rfl
  refine lv_aload_n hx hb dX0_multiply_153 rfl (lv_at hl 0 rfl) ?_
  refine va_get (D := (dC, dI)) (ci := 0) (v := .ref g) (C := RX0) (T := TX0) (N := 1) hx hb hts in_X0 hown hK.1 hP 0 rfl rfl 0 (by decide) (hts _ q20) (fun _ h9 => h9) rfl dX0_multiply_154 ?_
  refine lv_iload_n hx hb dX0_multiply_157 rfl (lv_at hl 1 rfl) ?_
  refine lv_iconst (v := 3) hx hb dX0_multiply_158 (by decide) ?_
  refine lv_iand hx hb dX0_multiply_159 ?_
  refine lv_aload hx hb dX0_multiply_160 (lv_at hl 6 rfl) ?_
  refine vg_ast hx hb hK.2 hP hD hS 1 6 rfl rfl (in3 r1) dX0_multiply_162 (fun H locs hP hD hS => ?_)
  have hP := gW_swapP (j3_lt r1) hP
  have hD := gW_swapD (j3_lt r1) hD
  exact W.vret hx hb hr (fun T hT hW => ⟨⟨(va_up ad (j3 r1) z1, va_up M (j3 r1) w), rfl, ⟨w, rfl, hmu_fin hI hga hgb hy hyi (fun k hk => (hw k hk).1 hk)⟩, by rw [hT]; exact hP, hD⟩, hS.F hT⟩) hS.2.2 dX0_multiply_163
end
section
/-! the law: how the two rings stay alike; what is known at its start (own) -/
def mrel (M1 M2 : Nat → Nat → Int32) : Prop := gOk M1 ∧ ∀ i, i < 4 → ∀ k, k < 256 → M1 i k = M2 i k
theorem mrel.ok2 {M1 M2 : Nat → Nat → Int32} (h : mrel M1 M2) : gOk M2 := fun i hi k hk => by rw [← h.2 i hi k hk]; exact h.1 i hi k hk
theorem mrel.up {M1 M2 : Nat → Nat → Int32} {j : Nat} {w1 w2 : Nat → Int32} (h : mrel M1 M2) (hw : ∀ k, k < 256 → w1 k = w2 k ∧ 0 ≤ (w1 k).toInt ∧ (w1 k).toInt < 8380417) : mrel (va_up M1 j w1) (va_up M2 j w2) := by
  have key : ∀ i, i < 4 → ∀ k, k < 256 → (0 ≤ (va_up M1 j w1 i k).toInt ∧ (va_up M1 j w1 i k).toInt < 8380417) ∧ va_up M1 j w1 i k = va_up M2 j w2 i k := by
    intro i hi k hk
    unfold va_up
    split
    · exact ⟨(hw k hk).2, (hw k hk).1⟩
    · exact ⟨h.1 i hi k hk, h.2 i hi k hk⟩
  exact ⟨fun i hi k hk => (key i hi k hk).1, fun i hi k hk => (key i hi k hk).2⟩
theorem mrel_put {M1 M2 : Nat → Nat → Int32} (h : mrel M1 M2) (a b v : Int32) : mrel (putS M1 a b v) (putS M2 a b v) := by
  refine h.up (fun k hk => ?_)
  by_cases q : k = j255 b
  · subst q
    rw [pk_us, pk_us]
    exact ⟨rfl, fair_spec v⟩
  · rw [pk_un q, pk_un q]
    exact ⟨h.2 _ (j3_lt a) k hk, h.1 _ (j3_lt a) k hk⟩
theorem mrel_spr {M1 M2 : Nat → Nat → Int32} (h : mrel M1 M2) (a b v : Int32) : mrel (sprS M1 a b v 256) (sprS M2 a b v 256) := by
  refine h.up (fun k hk => ?_)
  rw [fa_fill_in hk, fa_fill_in hk]
  exact ⟨rfl, fair_spec _⟩
theorem mrel_add {M1 M2 : Nat → Nat → Int32} {w1 w2 : Nat → Int32} (h : mrel M1 M2) {a b : Int32} (h1 : addP M1 a b w1 256) (h2 : addP M2 a b w2 256) : mrel (va_up M1 (j3 a) w1) (va_up M2 (j3 a) w2) := by
  refine h.up (fun k hk => ?_)
  have e1 := h1 k hk
  have e2 := h2 k hk
  rw [← h.2 _ (j3_lt a) k hk, ← h.2 _ (j3_lt b) k hk] at e2
  refine ⟨Int32.toInt_inj.mp (e1.trans e2.symm), ?_⟩
  rw [e1]
  have v0 := ar_m0 ((M1 (j3 a) k).toInt + (M1 (j3 b) k).toInt)
  have v1 := ar_m1 ((M1 (j3 a) k).toInt + (M1 (j3 b) k).toInt)
  omega
theorem mulS_cg {a a' b b' : Nat → Int} (ha : ∀ k, k < 256 → a k = a' k) (hb : ∀ k, k < 256 → b k = b' k) (i : Nat) (hi : i < 256) : cg (mulS a b i) (mulS a' b' i) := by
  unfold mulS
  refine cg.ml _ (iv_cg (fun j hj => ?_) 8 (by decide) i hi)
  exact (nt_cg (fun k hk => cg.of (ha k hk)) 8 (by decide) j hj).mul (nt_cg (fun k hk => cg.of (hb k hk)) 8 (by decide) j hj)
theorem mrel_mul {M1 M2 : Nat → Nat → Int32} {w1 w2 : Nat → Int32} (h : mrel M1 M2) {j : Nat} {a b : Int32} (h1 : mulP M1 a b w1) (h2 : mulP M2 a b w2) : mrel (va_up M1 j w1) (va_up M2 j w2) := by
  refine h.up (fun k hk => ?_)
  obtain ⟨a1, a2, a3⟩ := h1 k hk
  obtain ⟨b1, b2, b3⟩ := h2 k hk
  have e := mulS_cg (a := tI (M1 (j3 a))) (a' := tI (M2 (j3 a))) (b := tI (M1 (j3 b))) (b' := tI (M2 (j3 b))) (fun k hk => by unfold tI; rw [h.2 _ (j3_lt a) k hk]) (fun k hk => by unfold tI; rw [h.2 _ (j3_lt b) k hk]) k hk
  exact ⟨Int32.toInt_inj.mp (((a3.tr e).tr b3.sy).eq a1 a2 b1 b2), a1, a2⟩
theorem mrel_0 : mrel (fun _ _ => 0) (fun _ _ => 0) := ⟨fun _ _ _ _ => ⟨show (0 : Int) ≤ (0 : Int32).toInt by decide, show (0 : Int32).toInt < 8380417 by decide⟩, fun _ _ _ _ => rfl⟩
section SLD
variable {p : Program} {l : Launch} {e : Env} {R : Room} {s : State} {m : MethodId} {args : Array Value} {below : List Frame} {meth : Method} {c : Code} {H : Heap} {locs : List Loc} {cells slots : Nat} {Q : State → Prop} {cc : ByteArray} {pc : Nat} {ls : Array Slot} {rest : List Value} {A : Nat → Prop} {H0 : Heap}
theorem vn_sld (hexec : p.tables.exec = Jvm.exec) (hb : c.code = cc) {b L j : Nat} {xs : Nat → Int32} (hX : va_X b L xs s H0) (hbl : b < H0.size) (hbA : ¬ A b) (hS : va_S A H0 H locs) (hj : j < L) (hL : L < 2 ^ 31) (hdg : decode cc pc = .ok (.iaload, 1))
    (kk : W p l e R s m args below meth c H locs cells slots Q (F0 m (pc + 1) ls (.int (xs j) :: rest))) : W p l e R s m args below meth c H locs cells slots Q (F0 m pc ls (.int (nI j) :: .ref b :: rest)) := by
  refine va_sld hexec hb hX hbl hbA hS (vp_in_nI hj hL) hdg ?_
  rw [nI_clamp (by omega)]
  exact kk
end SLD
/-- the classes of arrays, known at the start -/
theorem gK_start {A : Array Value} {s : State} {dC : Nat → ClassId} {dI : Nat → Nat → Nat} (hKc : ∀ (k : Nat) (q : vw_C), vwCl[k]? = some q → u_Kn s q.1 q.2.1 q.2.2 (dC k) (dI k)) (h1 : (Cond.arrayOver (.array .int)).before A s = true) (h2 : (Cond.arrayClass .int).before A s = true) : ∃ cG cI : ClassId, gK (dC, dI) vwCl cG cI s := by
  obtain ⟨comp, c, k, a1, a2, a3, a4, a5⟩ := arrayOverA_spec h1
  obtain ⟨c2, k2, comp2, b1, b2, b3⟩ := Cond.arrayClass_spec h2
  have e : c2 = comp := Option.some.inj (b1.symm.trans a1)
  subst e
  refine ⟨c, c2, ⟨hKc, fun i q hq => ?_⟩, k, k2, a3, a4, b2⟩
  match i, hq with
  | 0, hq => cases hq; exact ⟨fun n z => ⟨fun k h => (by cases h), k2, b2, comp2, b3⟩, b1⟩
  | 1, hq => cases hq; exact ⟨fun n z => ⟨fun k h => (by cases h), k, a3, c2, a4⟩, a5⟩
  | i + 2, hq => simp at hq
theorem zt_d {j : Nat} (h : j < 256) : (flatC (Jvm.Cond.and given_1 narrow_1))[9 + j]? = some (Cond.eq (.elem (.static "Ntt" "nttZetas" "[I") (.int (Int32.ofNat j))) (.int (ztJ j))) := co_dec (P := fun j => (flatC (Jvm.Cond.and given_1 narrow_1))[9 + j]? = some (Cond.eq (.elem (.static "Ntt" "nttZetas" "[I") (.int (Int32.ofNat j))) (.int (ztJ j)))) (by decide +kernel) h
theorem gZ_start {A : Array Value} {s : State} (hgv : (Jvm.Cond.and given_1 narrow_1).before A s = true) (hl : (Cond.laysStatic "Ntt" "nttZetas" "[I").before A s = true) (hi : (Cond.initialized "Ntt").before A s = true) : ∃ t : Nat, gZ t (fun q : Nat => s.heap.size ≤ q) s s.heap := by
  have hs := flat_of_before _ hgv
  have hA : ∀ a : Nat, a < s.heap.size → ¬ (fun q : Nat => s.heap.size ≤ q) a := fun a ha => Nat.not_le.mpr ha
  have harr : (Cond.arrayOf (.static "Ntt" "nttZetas" "[I") .int).before A s = true := hs _ (by decide +kernel)
  have hlen : (Cond.eq (.length (.static "Ntt" "nttZetas" "[I")) (.int 256)).before A s = true := hs _ (by decide +kernel)
  obtain ⟨t, h1, h2⟩ := va_Tof (N := 256) (f := fun j => .int (ztJ j)) (by decide) harr (va_eqt hlen) (fun j hj => va_eqt (hs _ (List.mem_of_getElem? (zt_d hj)))) hA
  exact ⟨t, va_Zref hl hi h1 hA, h2⟩
end
section
/-! THE CLAIM OUT OF ONE WALK OF THE LAW'S BODY. Your part is whole_start (and what it stands on); all else here is the same for every law, but numbers. -/
def R_law : String := "HintRingLaw"
def lw_P (b : Addr) (xs : List Int32) (args : Array Value) (s : State) : Prop := args = #[.ref b] ∧ s.IntsAt b xs ∧ xs.length ≤ 288 ∧ (Jvm.Cond.and given_1 narrow_1).before args s = true
def lw_Q (_ : Array Value) (s : State) (o : Outcome) (t : State) : Prop := o = .returned (some (.int 1)) ∧ Framed s o t [] 600096 7301386
def lw_Z (below : List Frame) (a : Array Value) (s : State) : State → Prop := fun t => ∃ o, t.status = .running ∧ Ended t below o ∧ lw_Q a s o t
/-- the law's own end, with 1 on the stack, nothing written that was there before, its room as the claim has it -/
theorem lw_ret {p : Program} {l : Launch} {e : Env} {s : State} {m : MethodId} {below : List Frame} {meth : Method} {c : Code} {b : Nat} (hx : p.tables.exec = Jvm.exec) (hb : c.code = code) (hr : meth.sig.returnType = ret) (hlocks : meth.locks = false) {pc : Nat} {H : Heap} {ls : Array Slot} (hdg : decode code pc = .ok (.ireturn, 1)) : W p l e room_1 s m #[Value.ref b] below meth c H [] 600096 7301386 (lw_Z below #[Value.ref b] s) (F0 m pc ls [.int 1]) := by
  intro T hT X
  obtain ⟨fs, hret, hrun, hended, hW, hframe⟩ := X.leave (v := some (.int 1)) (hlocks := hlocks) (fun h => by rw [hr] at h; cases h)
  have hmeth' : T.vm.method? m = some meth := X.method'
  refine ⟨T.setFrames fs, ?_, .returned (some (.int 1)), hrun, hended, rfl, ⟨_, rfl⟩, hW, hframe⟩
  jvm_step X.here [X.here.top, hx, hb, hdg, hmeth', hr, ret, narrow_b1]
  (try refine ⟨rfl, ?_⟩); (try refine ⟨rfl, ?_⟩)
  first | (intro acts; rw [hret _ acts rfl rfl rfl]) | rw [hret _ _ rfl rfl rfl]
  exact Steps.refl _
/-- what holds at the law's entry: the machine, the code, the tables' words (any of lw_tbl by 'hts w (by decide +kernel)'), the script of L ints xs at the cell b, what the Statement gives of the start (any of its parts by flat_of_before) -/
def lw_At (p : Program) (s : State) (m : MethodId) (meth : Method) (c : Code) (b L : Nat) (xs : Nat → Int32) : Prop :=
  p.tables.exec = Jvm.exec ∧ c.code = code ∧ meth.sig.returnType = ret ∧ c.maxLocals = 4 ∧ s.vm.findClass R_law = some m.cls ∧ (∀ w ∈ lw_tbl, w.before #[Value.ref b] s = true) ∧ va_X b L xs s s.heap ∧ b < s.heap.size ∧ meth.locks = false ∧ (Jvm.Cond.and given_1 narrow_1).before #[Value.ref b] s = true

section LAW
variable {p : Program} {e : Env} {s : State} {m : MethodId} {below : List Frame} {meth : Method} {c : Code} {dC : Nat → ClassId} {dI : Nat → Nat → Nat} {cG cI : ClassId} {b L t : Nat} {xs : Nat → Int32}
set_option maxHeartbeats 4000000 in
set_option maxRecDepth 100000 in
/-- the law's loop at its head: k calls are done -/
theorem law_loop (l : Launch) (hL : L ≤ 288) (C0 : lw_At p s m meth c b L xs) (hK : gK (dC, dI) vwCl cG cI s) (hZ : gZ t (fun q : Nat => s.heap.size ≤ q) s s.heap) :
    ∀ (d k : Nat) (o1 g1 o2 g2 : Nat) (ad1 ad2 : Nat → Nat) (M1 M2 : Nat → Nat → Int32) (H : Heap) (locs : List Loc) (ls : Array Slot), k + d = 49 → mrel M1 M2 → va_P (dC, dI) vwCl (gW 0 o1 g1 cG cI ad1 M1 (gW 1 o2 g2 cG cI ad2 M2 [])) H → va_D (fun q : Nat => s.heap.size ≤ q) (gW 0 o1 g1 cG cI ad1 M1 (gW 1 o2 g2 cG cI ad2 M2 [])) → va_S (fun q : Nat => s.heap.size ≤ q) s.heap H locs → lv_has ls 4 [(0, .ref b), (1, .ref o1), (2, .ref o2), (3, .int (nI (6 * k)))] → W p l e room_1 s m #[Value.ref b] below meth c H locs (12 + 4 * k) (2058 + 1024 * k) (lw_Z below #[Value.ref b] s) (F0 m 18 ls []) := by
  obtain ⟨hx, hb, hr, hml, hown, hts0, hX, hbl, hlocks, hgv⟩ := id C0
  have hts : ∀ w ∈ lw_all, w.before #[Value.ref b] s = true := fun w h => hts0 w (lw_all_tbl h)
  have hA : ∀ q : Nat, s.heap.size ≤ q → (fun q : Nat => s.heap.size ≤ q) q := fun _ h => h
  have hbA : ¬ (fun q : Nat => s.heap.size ≤ q) b := Nat.not_le.mpr hbl
  have eL : (nI L - nI 6).toInt = (L : Int) - 6 := pk_sub_toInt (by omega) (by omega)
  intro d
  induction d with
  | zero =>
    intro k o1 g1 o2 g2 ad1 ad2 M1 M2 H locs ls hj hM hP hD hS hl
    refine lv_iload_n hx hb dL_law_18 rfl (lv_at hl 3 rfl) ?_
    refine lv_aload_n hx hb dL_law_19 rfl (lv_at hl 0 rfl) ?_
    refine va_slen hx hb hX hbl hbA hS dL_law_20 ?_
    refine lv_bipush (v := nI 6) hx hb dL_law_21 (by decide) ?_
    refine lv_isub hx hb dL_law_23 ?_
    refine lv_icmp_gt (tgt := 372) hx hb dL_law_24 (by decide) (fun c_24 => ?_) (fun c_24 => ?_)
    · skip
      refine lv_iconst (v := 1) hx hb dL_law_372 (by decide) ?_
      refine va_forget hS.2.2 ?_
      refine W.widen (k := 600096) (n := 7301386) (by omega) (by omega) ?_
      exact lw_ret hx hb hr hlocks dL_law_373
    · exact absurd (Int32.lt_iff_toInt_lt.mpr (by show (nI L - nI 6).toInt < _; rw [eL, nI_toInt (by omega)]; omega)) c_24
  | succ d ih =>
    intro k o1 g1 o2 g2 ad1 ad2 M1 M2 H locs ls hj hM hP hD hS hl
    refine lv_iload_n hx hb dL_law_18 rfl (lv_at hl 3 rfl) ?_
    refine lv_aload_n hx hb dL_law_19 rfl (lv_at hl 0 rfl) ?_
    refine va_slen hx hb hX hbl hbA hS dL_law_20 ?_
    refine lv_bipush (v := nI 6) hx hb dL_law_21 (by decide) ?_
    refine lv_isub hx hb dL_law_23 ?_
    refine lv_icmp_gt (tgt := 372) hx hb dL_law_24 (by decide) (fun c_24 => ?_) (fun c_24 => ?_)
    · skip
      refine lv_iconst (v := 1) hx hb dL_law_372 (by decide) ?_
      refine va_forget hS.2.2 ?_
      refine W.widen (k := 600096) (n := 7301386) (by omega) (by omega) ?_
      exact lw_ret hx hb hr hlocks dL_law_373
    · have hi : 6 * k + 6 ≤ L := by
        have h : ¬ (nI L - nI 6).toInt < (nI (6 * k)).toInt := fun q => c_24 (Int32.lt_iff_toInt_lt.mpr q)
        rw [eL, nI_toInt (by omega)] at h
        omega
      have hL31 : L < 2 ^ 31 := by omega
      refine lv_aload_n hx hb dL_law_27 rfl (lv_at hl 0 rfl) ?_
      refine lv_iload_n hx hb dL_law_28 rfl (lv_at hl 3 rfl) ?_
      refine vn_sld hx hb hX hbl hbA hS (by omega) hL31 dL_law_29 ?_
      refine lv_bipush (v := 7) hx hb dL_law_30 (by decide) ?_
      refine lv_iand hx hb dL_law_32 ?_
      obtain ⟨j, hj8, ej⟩ := pk_andE (xs (6 * k)) (m := 7) 3 (by decide)
      rw [ej]
      rcases (show j = 0 ∨ j = 1 ∨ j = 2 ∨ j = 3 ∨ j = 4 ∨ j = 5 ∨ j = 6 ∨ j = 7 by omega) with ej2 | ej2 | ej2 | ej2 | ej2 | ej2 | ej2 | ej2 <;> subst ej2
      · refine lv_tableIn (off := 47) (tgt := 80) hx hb dL_law_33 (by decide) (by decide) (by decide) (by decide) ?_
        refine lv_aload_n hx hb dL_law_80 rfl (lv_at hl 1 rfl) ?_
        refine lv_aload_n hx hb dL_law_81 rfl (lv_at hl 0 rfl) ?_
        refine lv_iload_n hx hb dL_law_82 rfl (lv_at hl 3 rfl) ?_
        refine lv_iconst (v := nI 1) hx hb dL_law_83 (by decide) ?_
        refine vn_iadd hx hb dL_law_84 ?_
        refine vn_sld hx hb hX hbl hbA hS (by omega) hL31 dL_law_85 ?_
        refine lv_aload_n hx hb dL_law_86 rfl (lv_at hl 0 rfl) ?_
        refine lv_iload_n hx hb dL_law_87 rfl (lv_at hl 3 rfl) ?_
        refine lv_iconst (v := nI 2) hx hb dL_law_88 (by decide) ?_
        refine vn_iadd hx hb dL_law_89 ?_
        refine vn_sld hx hb hX hbl hbA hS (by omega) hL31 dL_law_90 ?_
        refine lv_aload_n hx hb dL_law_91 rfl (lv_at hl 0 rfl) ?_
        refine lv_iload_n hx hb dL_law_92 rfl (lv_at hl 3 rfl) ?_
        refine lv_iconst (v := nI 3) hx hb dL_law_93 (by decide) ?_
        refine vn_iadd hx hb dL_law_94 ?_
        refine vn_sld hx hb hX hbl hbA hS (by omega) hL31 dL_law_95 ?_
        have hPc := hP.sub (ws' := gW 0 o1 g1 cG cI ad1 M1 []) [0, 1, 2, 3, 4, 5] rfl
        have hDc := hD.sub (ws' := gW 0 o1 g1 cG cI ad1 M1 []) [0, 1, 2, 3, 4, 5] (by decide) rfl
        have hFc := va_free (wc := gW 0 o1 g1 cG cI ad1 M1 []) hD hS hA [0, 1, 2, 3, 4, 5] rfl
        refine va_callv (va_runV (As := [.int (xs (6 * k + 1)), .int (xs (6 * k + 2)), .int (xs (6 * k + 3))]) (rest := []) ⟨hx, hb, hml, hown, hts⟩ (metX0_put l dC dI o1 g1 cG cI ad1 M1 H.size (xs (6 * k + 1)) (xs (6 * k + 2)) (xs (6 * k + 3))) (cwV 3 hts (lw_V q25 q26 q27 q2 q28) rfl rfl rfl (by decide +kernel) ⟨Nat.le_of_ble_eq_true rfl, Nat.le_of_ble_eq_true rfl⟩) ⟨fun _ U _ _ q => ⟨q.1, gPre.blind rfl (Vm.Alike.refl U.vm) q.2⟩, va_recv hK.1 hPc (ci := 0) (q0 := 0) rfl rfl, fun U hU hW => ⟨rfl, ⟨by rw [hU], by rw [hU]; exact hPc, gK.moved hW.alike hK, hDc.weaken (fun _ _ _ _ => trivial)⟩⟩⟩ rfl rfl hl.1 rfl (lv_room (Nat.le_of_ble_eq_true rfl)) dL_law_96 ⟨by show 12 + 4 * k + 0 ≤ 600096; omega, by show 2058 + 1024 * k + 0 ≤ 7301386; omega⟩) hS (fun q _ h => hFc q h) hFc (fun u0 T H1 locs hT hvm hw0 hB hz1 hk1 hS => ?_)
        obtain ⟨hP1, hD1⟩ := hB
        rw [hT] at hP1
        obtain ⟨hP, hD⟩ := va_join (wr := gW 1 o2 g2 cG cI ad2 M2 []) (w1 := gW 0 o1 g1 cG cI u0.1 u0.2 []) hP hD [0, 1, 2, 3, 4, 5] [6, 7, 8, 9, 10, 11] rfl rfl (by decide) (by decide) hk1 hFc hP1 hD1
        generalize H1 = H at hP hS ⊢
        refine lv_aload_n hx hb dL_law_99 rfl (lv_at hl 2 rfl) ?_
        refine lv_aload_n hx hb dL_law_100 rfl (lv_at hl 0 rfl) ?_
        refine lv_iload_n hx hb dL_law_101 rfl (lv_at hl 3 rfl) ?_
        refine lv_iconst (v := nI 1) hx hb dL_law_102 (by decide) ?_
        refine vn_iadd hx hb dL_law_103 ?_
        refine vn_sld hx hb hX hbl hbA hS (by omega) hL31 dL_law_104 ?_
        refine lv_aload_n hx hb dL_law_105 rfl (lv_at hl 0 rfl) ?_
        refine lv_iload_n hx hb dL_law_106 rfl (lv_at hl 3 rfl) ?_
        refine lv_iconst (v := nI 2) hx hb dL_law_107 (by decide) ?_
        refine vn_iadd hx hb dL_law_108 ?_
        refine vn_sld hx hb hX hbl hbA hS (by omega) hL31 dL_law_109 ?_
        refine lv_aload_n hx hb dL_law_110 rfl (lv_at hl 0 rfl) ?_
        refine lv_iload_n hx hb dL_law_111 rfl (lv_at hl 3 rfl) ?_
        refine lv_iconst (v := nI 3) hx hb dL_law_112 (by decide) ?_
        refine vn_iadd hx hb dL_law_113 ?_
        refine vn_sld hx hb hX hbl hbA hS (by omega) hL31 dL_law_114 ?_
        have hPc := hP.sub (ws' := gW 1 o2 g2 cG cI ad2 M2 []) [0, 1, 2, 3, 4, 5] rfl
        have hDc := hD.sub (ws' := gW 1 o2 g2 cG cI ad2 M2 []) [0, 1, 2, 3, 4, 5] (by decide) rfl
        have hFc := va_free (wc := gW 1 o2 g2 cG cI ad2 M2 []) hD hS hA [0, 1, 2, 3, 4, 5] rfl
        refine va_callv (va_runV (As := [.int (xs (6 * k + 1)), .int (xs (6 * k + 2)), .int (xs (6 * k + 3))]) (rest := []) ⟨hx, hb, hml, hown, hts⟩ (metX1_put l dC dI o2 g2 cG cI ad2 M2 H.size (xs (6 * k + 1)) (xs (6 * k + 2)) (xs (6 * k + 3))) (cwV 3 hts (lw_V q176 q177 q178 q3 q179) rfl rfl rfl (by decide +kernel) ⟨Nat.le_of_ble_eq_true rfl, Nat.le_of_ble_eq_true rfl⟩) ⟨fun _ U _ _ q => ⟨q.1, gPre.blind rfl (Vm.Alike.refl U.vm) q.2⟩, va_recv hK.1 hPc (ci := 1) (q0 := 0) rfl rfl, fun U hU hW => ⟨rfl, ⟨by rw [hU], by rw [hU]; exact hPc, gK.moved hW.alike hK, hDc.weaken (fun _ _ _ _ => trivial)⟩⟩⟩ rfl rfl hl.1 rfl (lv_room (Nat.le_of_ble_eq_true rfl)) dL_law_115 ⟨by show 12 + 4 * k + 0 + 0 ≤ 600096; omega, by show 2058 + 1024 * k + 0 + 0 ≤ 7301386; omega⟩) hS (fun q _ h => hFc q h) hFc (fun u1 T H1 locs hT hvm hw1 hB hz1 hk1 hS => ?_)
        obtain ⟨hP1, hD1⟩ := hB
        rw [hT] at hP1
        obtain ⟨hP, hD⟩ := va_join (wr := gW 0 o1 g1 cG cI u0.1 u0.2 []) (w1 := gW 1 o2 g2 cG cI u1.1 u1.2 []) hP hD [0, 1, 2, 3, 4, 5] [6, 7, 8, 9, 10, 11] rfl rfl (by decide) (by decide) hk1 hFc hP1 hD1
        generalize H1 = H at hP hS ⊢
        have hM : mrel u0.2 u1.2 := by rw [hw0, hw1]; exact mrel_put hM _ _ _
        refine lv_goto (tgt := 366) hx hb dL_law_118 (by decide) ?_
        refine lv_iinc (v := nI (6 * (k + 1))) (lv' := [(3, .int (nI (6 * (k + 1)))), (0, .ref b), (1, .ref o1), (2, .ref o2)]) hx hb dL_law_366 hl (k := 3) rfl (by rw [show 6 * (k + 1) = 6 * k + 6 by omega]; exact nI_add (6 * k) 6) (by decide) rfl (fun ls hl => ?_)
        refine lv_goto (tgt := 18) hx hb dL_law_369 (by decide) ?_
        refine W.widen (k := 12 + 4 * (k + 1)) (n := 2058 + 1024 * (k + 1)) (by omega) (by omega) ?_
        exact ih (k + 1) o1 g1 o2 g2 u0.1 u1.1 u0.2 u1.2 H locs ls (by omega) hM hP hD hS (lv_sub hl [1, 2, 3, 0] rfl)
      · refine lv_tableIn (off := 88) (tgt := 121) hx hb dL_law_33 (by decide) (by decide) (by decide) (by decide) ?_
        refine lv_aload_n hx hb dL_law_121 rfl (lv_at hl 1 rfl) ?_
        refine lv_aload_n hx hb dL_law_122 rfl (lv_at hl 0 rfl) ?_
        refine lv_iload_n hx hb dL_law_123 rfl (lv_at hl 3 rfl) ?_
        refine lv_iconst (v := nI 1) hx hb dL_law_124 (by decide) ?_
        refine vn_iadd hx hb dL_law_125 ?_
        refine vn_sld hx hb hX hbl hbA hS (by omega) hL31 dL_law_126 ?_
        refine lv_aload_n hx hb dL_law_127 rfl (lv_at hl 0 rfl) ?_
        refine lv_iload_n hx hb dL_law_128 rfl (lv_at hl 3 rfl) ?_
        refine lv_iconst (v := nI 2) hx hb dL_law_129 (by decide) ?_
        refine vn_iadd hx hb dL_law_130 ?_
        refine vn_sld hx hb hX hbl hbA hS (by omega) hL31 dL_law_131 ?_
        refine lv_aload_n hx hb dL_law_132 rfl (lv_at hl 0 rfl) ?_
        refine lv_iload_n hx hb dL_law_133 rfl (lv_at hl 3 rfl) ?_
        refine lv_iconst (v := nI 3) hx hb dL_law_134 (by decide) ?_
        refine vn_iadd hx hb dL_law_135 ?_
        refine vn_sld hx hb hX hbl hbA hS (by omega) hL31 dL_law_136 ?_
        have hPc := hP.sub (ws' := gW 0 o1 g1 cG cI ad1 M1 []) [0, 1, 2, 3, 4, 5] rfl
        have hDc := hD.sub (ws' := gW 0 o1 g1 cG cI ad1 M1 []) [0, 1, 2, 3, 4, 5] (by decide) rfl
        have hFc := va_free (wc := gW 0 o1 g1 cG cI ad1 M1 []) hD hS hA [0, 1, 2, 3, 4, 5] rfl
        refine va_callv (va_runV (As := [.int (xs (6 * k + 1)), .int (xs (6 * k + 2)), .int (xs (6 * k + 3))]) (rest := []) ⟨hx, hb, hml, hown, hts⟩ (metX0_spread l dC dI o1 g1 cG cI ad1 M1 H.size (xs (6 * k + 1)) (xs (6 * k + 2)) (xs (6 * k + 3))) (cwV 3 hts (lw_V q34 q35 q36 q2 q37) rfl rfl rfl (by decide +kernel) ⟨Nat.le_of_ble_eq_true rfl, Nat.le_of_ble_eq_true rfl⟩) ⟨fun _ U _ _ q => ⟨q.1, gPre.blind rfl (Vm.Alike.refl U.vm) q.2⟩, va_recv hK.1 hPc (ci := 0) (q0 := 0) rfl rfl, fun U hU hW => ⟨rfl, ⟨by rw [hU], by rw [hU]; exact hPc, gK.moved hW.alike hK, hDc.weaken (fun _ _ _ _ => trivial)⟩⟩⟩ rfl rfl hl.1 rfl (lv_room (Nat.le_of_ble_eq_true rfl)) dL_law_137 ⟨by show 12 + 4 * k + 0 ≤ 600096; omega, by show 2058 + 1024 * k + 0 ≤ 7301386; omega⟩) hS (fun q _ h => hFc q h) hFc (fun u0 T H1 locs hT hvm hw0 hB hz1 hk1 hS => ?_)
        obtain ⟨hP1, hD1⟩ := hB
        rw [hT] at hP1
        obtain ⟨hP, hD⟩ := va_join (wr := gW 1 o2 g2 cG cI ad2 M2 []) (w1 := gW 0 o1 g1 cG cI u0.1 u0.2 []) hP hD [0, 1, 2, 3, 4, 5] [6, 7, 8, 9, 10, 11] rfl rfl (by decide) (by decide) hk1 hFc hP1 hD1
        generalize H1 = H at hP hS ⊢
        refine lv_aload_n hx hb dL_law_140 rfl (lv_at hl 2 rfl) ?_
        refine lv_aload_n hx hb dL_law_141 rfl (lv_at hl 0 rfl) ?_
        refine lv_iload_n hx hb dL_law_142 rfl (lv_at hl 3 rfl) ?_
        refine lv_iconst (v := nI 1) hx hb dL_law_143 (by decide) ?_
        refine vn_iadd hx hb dL_law_144 ?_
        refine vn_sld hx hb hX hbl hbA hS (by omega) hL31 dL_law_145 ?_
        refine lv_aload_n hx hb dL_law_146 rfl (lv_at hl 0 rfl) ?_
        refine lv_iload_n hx hb dL_law_147 rfl (lv_at hl 3 rfl) ?_
        refine lv_iconst (v := nI 2) hx hb dL_law_148 (by decide) ?_
        refine vn_iadd hx hb dL_law_149 ?_
        refine vn_sld hx hb hX hbl hbA hS (by omega) hL31 dL_law_150 ?_
        refine lv_aload_n hx hb dL_law_151 rfl (lv_at hl 0 rfl) ?_
        refine lv_iload_n hx hb dL_law_152 rfl (lv_at hl 3 rfl) ?_
        refine lv_iconst (v := nI 3) hx hb dL_law_153 (by decide) ?_
        refine vn_iadd hx hb dL_law_154 ?_
        refine vn_sld hx hb hX hbl hbA hS (by omega) hL31 dL_law_155 ?_
        have hPc := hP.sub (ws' := gW 1 o2 g2 cG cI ad2 M2 []) [0, 1, 2, 3, 4, 5] rfl
        have hDc := hD.sub (ws' := gW 1 o2 g2 cG cI ad2 M2 []) [0, 1, 2, 3, 4, 5] (by decide) rfl
        have hFc := va_free (wc := gW 1 o2 g2 cG cI ad2 M2 []) hD hS hA [0, 1, 2, 3, 4, 5] rfl
        refine va_callv (va_runV (As := [.int (xs (6 * k + 1)), .int (xs (6 * k + 2)), .int (xs (6 * k + 3))]) (rest := []) ⟨hx, hb, hml, hown, hts⟩ (metX1_spread l dC dI o2 g2 cG cI ad2 M2 H.size (xs (6 * k + 1)) (xs (6 * k + 2)) (xs (6 * k + 3))) (cwV 3 hts (lw_V q182 q183 q184 q3 q185) rfl rfl rfl (by decide +kernel) ⟨Nat.le_of_ble_eq_true rfl, Nat.le_of_ble_eq_true rfl⟩) ⟨fun _ U _ _ q => ⟨q.1, gPre.blind rfl (Vm.Alike.refl U.vm) q.2⟩, va_recv hK.1 hPc (ci := 1) (q0 := 0) rfl rfl, fun U hU hW => ⟨rfl, ⟨by rw [hU], by rw [hU]; exact hPc, gK.moved hW.alike hK, hDc.weaken (fun _ _ _ _ => trivial)⟩⟩⟩ rfl rfl hl.1 rfl (lv_room (Nat.le_of_ble_eq_true rfl)) dL_law_156 ⟨by show 12 + 4 * k + 0 + 0 ≤ 600096; omega, by show 2058 + 1024 * k + 0 + 0 ≤ 7301386; omega⟩) hS (fun q _ h => hFc q h) hFc (fun u1 T H1 locs hT hvm hw1 hB hz1 hk1 hS => ?_)
        obtain ⟨hP1, hD1⟩ := hB
        rw [hT] at hP1
        obtain ⟨hP, hD⟩ := va_join (wr := gW 0 o1 g1 cG cI u0.1 u0.2 []) (w1 := gW 1 o2 g2 cG cI u1.1 u1.2 []) hP hD [0, 1, 2, 3, 4, 5] [6, 7, 8, 9, 10, 11] rfl rfl (by decide) (by decide) hk1 hFc hP1 hD1
        generalize H1 = H at hP hS ⊢
        have hM : mrel u0.2 u1.2 := by rw [hw0, hw1]; exact mrel_spr hM _ _ _
        refine lv_goto (tgt := 366) hx hb dL_law_159 (by decide) ?_
        refine lv_iinc (v := nI (6 * (k + 1))) (lv' := [(3, .int (nI (6 * (k + 1)))), (0, .ref b), (1, .ref o1), (2, .ref o2)]) hx hb dL_law_366 hl (k := 3) rfl (by rw [show 6 * (k + 1) = 6 * k + 6 by omega]; exact nI_add (6 * k) 6) (by decide) rfl (fun ls hl => ?_)
        refine lv_goto (tgt := 18) hx hb dL_law_369 (by decide) ?_
        refine W.widen (k := 12 + 4 * (k + 1)) (n := 2058 + 1024 * (k + 1)) (by omega) (by omega) ?_
        exact ih (k + 1) o1 g1 o2 g2 u0.1 u1.1 u0.2 u1.2 H locs ls (by omega) hM hP hD hS (lv_sub hl [1, 2, 3, 0] rfl)
      · refine lv_tableIn (off := 129) (tgt := 162) hx hb dL_law_33 (by decide) (by decide) (by decide) (by decide) ?_
        refine lv_aload_n hx hb dL_law_162 rfl (lv_at hl 1 rfl) ?_
        refine lv_aload_n hx hb dL_law_163 rfl (lv_at hl 0 rfl) ?_
        refine lv_iload_n hx hb dL_law_164 rfl (lv_at hl 3 rfl) ?_
        refine lv_iconst (v := nI 1) hx hb dL_law_165 (by decide) ?_
        refine vn_iadd hx hb dL_law_166 ?_
        refine vn_sld hx hb hX hbl hbA hS (by omega) hL31 dL_law_167 ?_
        refine lv_aload_n hx hb dL_law_168 rfl (lv_at hl 0 rfl) ?_
        refine lv_iload_n hx hb dL_law_169 rfl (lv_at hl 3 rfl) ?_
        refine lv_iconst (v := nI 2) hx hb dL_law_170 (by decide) ?_
        refine vn_iadd hx hb dL_law_171 ?_
        refine vn_sld hx hb hX hbl hbA hS (by omega) hL31 dL_law_172 ?_
        refine lv_aload_n hx hb dL_law_173 rfl (lv_at hl 0 rfl) ?_
        refine lv_iload_n hx hb dL_law_174 rfl (lv_at hl 3 rfl) ?_
        refine lv_iconst (v := nI 3) hx hb dL_law_175 (by decide) ?_
        refine vn_iadd hx hb dL_law_176 ?_
        refine vn_sld hx hb hX hbl hbA hS (by omega) hL31 dL_law_177 ?_
        have hPc := hP.sub (ws' := gW 0 o1 g1 cG cI ad1 M1 []) [0, 1, 2, 3, 4, 5] rfl
        have hDc := hD.sub (ws' := gW 0 o1 g1 cG cI ad1 M1 []) [0, 1, 2, 3, 4, 5] (by decide) rfl
        have hFc := va_free (wc := gW 0 o1 g1 cG cI ad1 M1 []) hD hS hA [0, 1, 2, 3, 4, 5] rfl
        have hZc : gZ t (va_A (gW 0 o1 g1 cG cI ad1 M1 []) H.size) s H := (hZ.kept hS.2.1).narrow hFc
        refine va_callv (va_runV (As := [.int (xs (6 * k + 1)), .int (xs (6 * k + 2)), .int (xs (6 * k + 3))]) (rest := []) ⟨hx, hb, hml, hown, hts⟩ (metX0_multiply l dC dI o1 g1 cG cI ad1 M1 H.size t hM.1 (xs (6 * k + 1)) (xs (6 * k + 2)) (xs (6 * k + 3))) (cwV 3 hts (lw_V q38 q39 q40 q2 q41) rfl rfl rfl (by decide +kernel) ⟨Nat.le_of_ble_eq_true rfl, Nat.le_of_ble_eq_true rfl⟩) ⟨fun a U g mk q => ⟨q.1, gPre.blind rfl (Vm.Alike.refl U.vm) q.2.1, gZ.moved (u := U) (U := U.calling g mk a) (Vm.Alike.refl U.vm) q.2.2⟩, va_recv hK.1 hPc (ci := 0) (q0 := 0) rfl rfl, fun U hU hW => ⟨rfl, ⟨⟨by rw [hU], by rw [hU]; exact hPc, gK.moved hW.alike hK, hDc.weaken (fun _ _ _ _ => trivial)⟩, by rw [hU]; exact hZc.moved hW.alike⟩⟩⟩ rfl rfl hl.1 rfl (lv_room (Nat.le_of_ble_eq_true rfl)) dL_law_178 ⟨by show 12 + 4 * k + 3 ≤ 600096; omega, by show 2058 + 1024 * k + 768 ≤ 7301386; omega⟩) hS (fun q _ h => hFc q h) hFc (fun u0 T H1 locs hT hvm hw0 hB hz1 hk1 hS => ?_)
        obtain ⟨hP1, hD1⟩ := hB
        rw [hT] at hP1
        obtain ⟨hP, hD⟩ := va_join (wr := gW 1 o2 g2 cG cI ad2 M2 []) (w1 := gW 0 o1 g1 cG cI u0.1 u0.2 []) hP hD [0, 1, 2, 3, 4, 5] [6, 7, 8, 9, 10, 11] rfl rfl (by decide) (by decide) hk1 hFc hP1 hD1
        generalize H1 = H at hP hS ⊢
        refine lv_aload_n hx hb dL_law_181 rfl (lv_at hl 2 rfl) ?_
        refine lv_aload_n hx hb dL_law_182 rfl (lv_at hl 0 rfl) ?_
        refine lv_iload_n hx hb dL_law_183 rfl (lv_at hl 3 rfl) ?_
        refine lv_iconst (v := nI 1) hx hb dL_law_184 (by decide) ?_
        refine vn_iadd hx hb dL_law_185 ?_
        refine vn_sld hx hb hX hbl hbA hS (by omega) hL31 dL_law_186 ?_
        refine lv_aload_n hx hb dL_law_187 rfl (lv_at hl 0 rfl) ?_
        refine lv_iload_n hx hb dL_law_188 rfl (lv_at hl 3 rfl) ?_
        refine lv_iconst (v := nI 2) hx hb dL_law_189 (by decide) ?_
        refine vn_iadd hx hb dL_law_190 ?_
        refine vn_sld hx hb hX hbl hbA hS (by omega) hL31 dL_law_191 ?_
        refine lv_aload_n hx hb dL_law_192 rfl (lv_at hl 0 rfl) ?_
        refine lv_iload_n hx hb dL_law_193 rfl (lv_at hl 3 rfl) ?_
        refine lv_iconst (v := nI 3) hx hb dL_law_194 (by decide) ?_
        refine vn_iadd hx hb dL_law_195 ?_
        refine vn_sld hx hb hX hbl hbA hS (by omega) hL31 dL_law_196 ?_
        have hPc := hP.sub (ws' := gW 1 o2 g2 cG cI ad2 M2 []) [0, 1, 2, 3, 4, 5] rfl
        have hDc := hD.sub (ws' := gW 1 o2 g2 cG cI ad2 M2 []) [0, 1, 2, 3, 4, 5] (by decide) rfl
        have hFc := va_free (wc := gW 1 o2 g2 cG cI ad2 M2 []) hD hS hA [0, 1, 2, 3, 4, 5] rfl
        refine va_callv (va_runV (As := [.int (xs (6 * k + 1)), .int (xs (6 * k + 2)), .int (xs (6 * k + 3))]) (rest := []) ⟨hx, hb, hml, hown, hts⟩ (metX1_multiply l dC dI o2 g2 cG cI ad2 M2 H.size hM.ok2 (xs (6 * k + 1)) (xs (6 * k + 2)) (xs (6 * k + 3))) (cwV 3 hts (lw_V q186 q187 q188 q3 q189) rfl rfl rfl (by decide +kernel) ⟨Nat.le_of_ble_eq_true rfl, Nat.le_of_ble_eq_true rfl⟩) ⟨fun _ U _ _ q => ⟨q.1, gPre.blind rfl (Vm.Alike.refl U.vm) q.2⟩, va_recv hK.1 hPc (ci := 1) (q0 := 0) rfl rfl, fun U hU hW => ⟨rfl, ⟨by rw [hU], by rw [hU]; exact hPc, gK.moved hW.alike hK, hDc.weaken (fun _ _ _ _ => trivial)⟩⟩⟩ rfl rfl hl.1 rfl (lv_room (Nat.le_of_ble_eq_true rfl)) dL_law_197 ⟨by show 12 + 4 * k + 3 + 1 ≤ 600096; omega, by show 2058 + 1024 * k + 768 + 256 ≤ 7301386; omega⟩) hS (fun q _ h => hFc q h) hFc (fun u1 T H1 locs hT hvm hw1 hB hz1 hk1 hS => ?_)
        obtain ⟨hP1, hD1⟩ := hB
        rw [hT] at hP1
        obtain ⟨hP, hD⟩ := va_join (wr := gW 0 o1 g1 cG cI u0.1 u0.2 []) (w1 := gW 1 o2 g2 cG cI u1.1 u1.2 []) hP hD [0, 1, 2, 3, 4, 5] [6, 7, 8, 9, 10, 11] rfl rfl (by decide) (by decide) hk1 hFc hP1 hD1
        generalize H1 = H at hP hS ⊢
        have hM : mrel u0.2 u1.2 := by
          obtain ⟨w1, e1, a1⟩ := hw0
          obtain ⟨w2, e2, a2⟩ := hw1
          rw [e1, e2]
          exact mrel_mul hM a1 a2
        refine lv_goto (tgt := 366) hx hb dL_law_200 (by decide) ?_
        refine lv_iinc (v := nI (6 * (k + 1))) (lv' := [(3, .int (nI (6 * (k + 1)))), (0, .ref b), (1, .ref o1), (2, .ref o2)]) hx hb dL_law_366 hl (k := 3) rfl (by rw [show 6 * (k + 1) = 6 * k + 6 by omega]; exact nI_add (6 * k) 6) (by decide) rfl (fun ls hl => ?_)
        refine lv_goto (tgt := 18) hx hb dL_law_369 (by decide) ?_
        refine W.widen (k := 12 + 4 * (k + 1)) (n := 2058 + 1024 * (k + 1)) (by omega) (by omega) ?_
        exact ih (k + 1) o1 g1 o2 g2 u0.1 u1.1 u0.2 u1.2 H locs ls (by omega) hM hP hD hS (lv_sub hl [1, 2, 3, 0] rfl)
      · refine lv_tableIn (off := 170) (tgt := 203) hx hb dL_law_33 (by decide) (by decide) (by decide) (by decide) ?_
        refine lv_aload_n hx hb dL_law_203 rfl (lv_at hl 1 rfl) ?_
        refine lv_aload_n hx hb dL_law_204 rfl (lv_at hl 0 rfl) ?_
        refine lv_iload_n hx hb dL_law_205 rfl (lv_at hl 3 rfl) ?_
        refine lv_iconst (v := nI 1) hx hb dL_law_206 (by decide) ?_
        refine vn_iadd hx hb dL_law_207 ?_
        refine vn_sld hx hb hX hbl hbA hS (by omega) hL31 dL_law_208 ?_
        refine lv_aload_n hx hb dL_law_209 rfl (lv_at hl 0 rfl) ?_
        refine lv_iload_n hx hb dL_law_210 rfl (lv_at hl 3 rfl) ?_
        refine lv_iconst (v := nI 2) hx hb dL_law_211 (by decide) ?_
        refine vn_iadd hx hb dL_law_212 ?_
        refine vn_sld hx hb hX hbl hbA hS (by omega) hL31 dL_law_213 ?_
        have hPc := hP.sub (ws' := gW 0 o1 g1 cG cI ad1 M1 []) [0, 1, 2, 3, 4, 5] rfl
        have hDc := hD.sub (ws' := gW 0 o1 g1 cG cI ad1 M1 []) [0, 1, 2, 3, 4, 5] (by decide) rfl
        have hFc := va_free (wc := gW 0 o1 g1 cG cI ad1 M1 []) hD hS hA [0, 1, 2, 3, 4, 5] rfl
        refine va_callv (va_runV (As := [.int (xs (6 * k + 1)), .int (xs (6 * k + 2))]) (rest := []) ⟨hx, hb, hml, hown, hts⟩ (metX0_add l dC dI o1 g1 cG cI ad1 M1 H.size hM.1 (xs (6 * k + 1)) (xs (6 * k + 2))) (cwV 2 hts (lw_V q68 q69 q70 q2 q71) rfl rfl rfl (by decide +kernel) ⟨Nat.le_of_ble_eq_true rfl, Nat.le_of_ble_eq_true rfl⟩) ⟨fun _ U _ _ q => ⟨q.1, gPre.blind rfl (Vm.Alike.refl U.vm) q.2⟩, va_recv hK.1 hPc (ci := 0) (q0 := 0) rfl rfl, fun U hU hW => ⟨rfl, ⟨by rw [hU], by rw [hU]; exact hPc, gK.moved hW.alike hK, hDc.weaken (fun _ _ _ _ => trivial)⟩⟩⟩ rfl rfl hl.1 rfl (lv_room (Nat.le_of_ble_eq_true rfl)) dL_law_214 ⟨by show 12 + 4 * k + 1 ≤ 600096; omega, by show 2058 + 1024 * k + 256 ≤ 7301386; omega⟩) hS (fun q _ h => hFc q h) hFc (fun u0 T H1 locs hT hvm hw0 hB hz1 hk1 hS => ?_)
        obtain ⟨hP1, hD1⟩ := hB
        rw [hT] at hP1
        obtain ⟨hP, hD⟩ := va_join (wr := gW 1 o2 g2 cG cI ad2 M2 []) (w1 := gW 0 o1 g1 cG cI u0.1 u0.2 []) hP hD [0, 1, 2, 3, 4, 5] [6, 7, 8, 9, 10, 11] rfl rfl (by decide) (by decide) hk1 hFc hP1 hD1
        generalize H1 = H at hP hS ⊢
        refine lv_aload_n hx hb dL_law_217 rfl (lv_at hl 2 rfl) ?_
        refine lv_aload_n hx hb dL_law_218 rfl (lv_at hl 0 rfl) ?_
        refine lv_iload_n hx hb dL_law_219 rfl (lv_at hl 3 rfl) ?_
        refine lv_iconst (v := nI 1) hx hb dL_law_220 (by decide) ?_
        refine vn_iadd hx hb dL_law_221 ?_
        refine vn_sld hx hb hX hbl hbA hS (by omega) hL31 dL_law_222 ?_
        refine lv_aload_n hx hb dL_law_223 rfl (lv_at hl 0 rfl) ?_
        refine lv_iload_n hx hb dL_law_224 rfl (lv_at hl 3 rfl) ?_
        refine lv_iconst (v := nI 2) hx hb dL_law_225 (by decide) ?_
        refine vn_iadd hx hb dL_law_226 ?_
        refine vn_sld hx hb hX hbl hbA hS (by omega) hL31 dL_law_227 ?_
        have hPc := hP.sub (ws' := gW 1 o2 g2 cG cI ad2 M2 []) [0, 1, 2, 3, 4, 5] rfl
        have hDc := hD.sub (ws' := gW 1 o2 g2 cG cI ad2 M2 []) [0, 1, 2, 3, 4, 5] (by decide) rfl
        have hFc := va_free (wc := gW 1 o2 g2 cG cI ad2 M2 []) hD hS hA [0, 1, 2, 3, 4, 5] rfl
        refine va_callv (va_runV (As := [.int (xs (6 * k + 1)), .int (xs (6 * k + 2))]) (rest := []) ⟨hx, hb, hml, hown, hts⟩ (metX1_add l dC dI o2 g2 cG cI ad2 M2 H.size hM.ok2 (xs (6 * k + 1)) (xs (6 * k + 2))) (cwV 2 hts (lw_V q191 q192 q193 q3 q194) rfl rfl rfl (by decide +kernel) ⟨Nat.le_of_ble_eq_true rfl, Nat.le_of_ble_eq_true rfl⟩) ⟨fun _ U _ _ q => ⟨q.1, gPre.blind rfl (Vm.Alike.refl U.vm) q.2⟩, va_recv hK.1 hPc (ci := 1) (q0 := 0) rfl rfl, fun U hU hW => ⟨rfl, ⟨by rw [hU], by rw [hU]; exact hPc, gK.moved hW.alike hK, hDc.weaken (fun _ _ _ _ => trivial)⟩⟩⟩ rfl rfl hl.1 rfl (lv_room (Nat.le_of_ble_eq_true rfl)) dL_law_228 ⟨by show 12 + 4 * k + 1 + 1 ≤ 600096; omega, by show 2058 + 1024 * k + 256 + 256 ≤ 7301386; omega⟩) hS (fun q _ h => hFc q h) hFc (fun u1 T H1 locs hT hvm hw1 hB hz1 hk1 hS => ?_)
        obtain ⟨hP1, hD1⟩ := hB
        rw [hT] at hP1
        obtain ⟨hP, hD⟩ := va_join (wr := gW 0 o1 g1 cG cI u0.1 u0.2 []) (w1 := gW 1 o2 g2 cG cI u1.1 u1.2 []) hP hD [0, 1, 2, 3, 4, 5] [6, 7, 8, 9, 10, 11] rfl rfl (by decide) (by decide) hk1 hFc hP1 hD1
        generalize H1 = H at hP hS ⊢
        have hM : mrel u0.2 u1.2 := by
          obtain ⟨w1, e1, a1⟩ := hw0
          obtain ⟨w2, e2, a2⟩ := hw1
          rw [e1, e2]
          exact mrel_add hM a1 a2
        refine lv_goto (tgt := 366) hx hb dL_law_231 (by decide) ?_
        refine lv_iinc (v := nI (6 * (k + 1))) (lv' := [(3, .int (nI (6 * (k + 1)))), (0, .ref b), (1, .ref o1), (2, .ref o2)]) hx hb dL_law_366 hl (k := 3) rfl (by rw [show 6 * (k + 1) = 6 * k + 6 by omega]; exact nI_add (6 * k) 6) (by decide) rfl (fun ls hl => ?_)
        refine lv_goto (tgt := 18) hx hb dL_law_369 (by decide) ?_
        refine W.widen (k := 12 + 4 * (k + 1)) (n := 2058 + 1024 * (k + 1)) (by omega) (by omega) ?_
        exact ih (k + 1) o1 g1 o2 g2 u0.1 u1.1 u0.2 u1.2 H locs ls (by omega) hM hP hD hS (lv_sub hl [1, 2, 3, 0] rfl)
      · refine lv_tableIn (off := 201) (tgt := 234) hx hb dL_law_33 (by decide) (by decide) (by decide) (by decide) ?_
        refine lv_aload_n hx hb dL_law_234 rfl (lv_at hl 1 rfl) ?_
        refine lv_aload_n hx hb dL_law_235 rfl (lv_at hl 0 rfl) ?_
        refine lv_iload_n hx hb dL_law_236 rfl (lv_at hl 3 rfl) ?_
        refine lv_iconst (v := nI 1) hx hb dL_law_237 (by decide) ?_
        refine vn_iadd hx hb dL_law_238 ?_
        refine vn_sld hx hb hX hbl hbA hS (by omega) hL31 dL_law_239 ?_
        refine lv_aload_n hx hb dL_law_240 rfl (lv_at hl 0 rfl) ?_
        refine lv_iload_n hx hb dL_law_241 rfl (lv_at hl 3 rfl) ?_
        refine lv_iconst (v := nI 2) hx hb dL_law_242 (by decide) ?_
        refine vn_iadd hx hb dL_law_243 ?_
        refine vn_sld hx hb hX hbl hbA hS (by omega) hL31 dL_law_244 ?_
        have hPc := hP.sub (ws' := gW 0 o1 g1 cG cI ad1 M1 []) [0, 1, 2, 3, 4, 5] rfl
        have hDc := hD.sub (ws' := gW 0 o1 g1 cG cI ad1 M1 []) [0, 1, 2, 3, 4, 5] (by decide) rfl
        refine vp_callSi (va_Run.run (va_runV (As := [.int (xs (6 * k + 1)), .int (xs (6 * k + 2))]) (rest := []) ⟨hx, hb, hml, hown, hts⟩ (metX0_coefficient l dC dI o1 g1 cG cI ad1 M1 H.size (xs (6 * k + 1)) (xs (6 * k + 2))) (cwV 2 hts (lw_V q72 q73 q74 q2 q75) rfl rfl rfl (by decide +kernel) ⟨Nat.le_of_ble_eq_true rfl, Nat.le_of_ble_eq_true rfl⟩) ⟨fun _ U _ _ q => ⟨q.1, gPre.blind rfl (Vm.Alike.refl U.vm) q.2⟩, va_recv hK.1 hP (ci := 0) (q0 := 0) rfl rfl, fun U hU hW => ⟨rfl, ⟨by rw [hU], by rw [hU]; exact hPc, gK.moved hW.alike hK, hDc.weaken (fun _ _ _ _ => trivial)⟩⟩⟩ rfl rfl hl.1 rfl (lv_room (Nat.le_of_ble_eq_true rfl)) dL_law_245 ⟨by show 12 + 4 * k + 0 ≤ 600096; omega, by show 2058 + 1024 * k + 0 ≤ 7301386; omega⟩)) (fun z0 hz0 => ?_)
        refine lv_aload_n hx hb dL_law_248 rfl (lv_at hl 2 rfl) ?_
        refine lv_aload_n hx hb dL_law_249 rfl (lv_at hl 0 rfl) ?_
        refine lv_iload_n hx hb dL_law_250 rfl (lv_at hl 3 rfl) ?_
        refine lv_iconst (v := nI 1) hx hb dL_law_251 (by decide) ?_
        refine vn_iadd hx hb dL_law_252 ?_
        refine vn_sld hx hb hX hbl hbA hS (by omega) hL31 dL_law_253 ?_
        refine lv_aload_n hx hb dL_law_254 rfl (lv_at hl 0 rfl) ?_
        refine lv_iload_n hx hb dL_law_255 rfl (lv_at hl 3 rfl) ?_
        refine lv_iconst (v := nI 2) hx hb dL_law_256 (by decide) ?_
        refine vn_iadd hx hb dL_law_257 ?_
        refine vn_sld hx hb hX hbl hbA hS (by omega) hL31 dL_law_258 ?_
        have hPc := hP.sub (ws' := gW 1 o2 g2 cG cI ad2 M2 []) [6, 7, 8, 9, 10, 11] rfl
        have hDc := hD.sub (ws' := gW 1 o2 g2 cG cI ad2 M2 []) [6, 7, 8, 9, 10, 11] (by decide) rfl
        refine vp_callSi (va_Run.run (va_runV (As := [.int (xs (6 * k + 1)), .int (xs (6 * k + 2))]) (rest := [.int z0]) ⟨hx, hb, hml, hown, hts⟩ (metX1_coefficient l dC dI o2 g2 cG cI ad2 M2 H.size (xs (6 * k + 1)) (xs (6 * k + 2))) (cwV 2 hts (lw_V q195 q196 q197 q3 q198) rfl rfl rfl (by decide +kernel) ⟨Nat.le_of_ble_eq_true rfl, Nat.le_of_ble_eq_true rfl⟩) ⟨fun _ U _ _ q => ⟨q.1, gPre.blind rfl (Vm.Alike.refl U.vm) q.2⟩, va_recv hK.1 hP (ci := 1) (q0 := 6) rfl rfl, fun U hU hW => ⟨rfl, ⟨by rw [hU], by rw [hU]; exact hPc, gK.moved hW.alike hK, hDc.weaken (fun _ _ _ _ => trivial)⟩⟩⟩ rfl rfl hl.1 rfl (lv_room (Nat.le_of_ble_eq_true rfl)) dL_law_259 ⟨by show 12 + 4 * k + 0 ≤ 600096; omega, by show 2058 + 1024 * k + 0 ≤ 7301386; omega⟩)) (fun z1 hz1 => ?_)
        have ez : z0 = z1 := hz0.trans ((hM.2 _ (j3_lt _) _ (j255_lt _)).trans hz1.symm)
        refine lv_icmp_eq (tgt := 366) hx hb dL_law_262 (by decide) (fun _ => ?_) (fun c_9 => absurd ez c_9)
        refine lv_iinc (v := nI (6 * (k + 1))) (lv' := [(3, .int (nI (6 * (k + 1)))), (0, .ref b), (1, .ref o1), (2, .ref o2)]) hx hb dL_law_366 hl (k := 3) rfl (by rw [show 6 * (k + 1) = 6 * k + 6 by omega]; exact nI_add (6 * k) 6) (by decide) rfl (fun ls hl => ?_)
        refine lv_goto (tgt := 18) hx hb dL_law_369 (by decide) ?_
        refine W.widen (k := 12 + 4 * (k + 1)) (n := 2058 + 1024 * (k + 1)) (by omega) (by omega) ?_
        exact ih (k + 1) o1 g1 o2 g2 ad1 ad2 M1 M2 H locs ls (by omega) hM hP hD hS (lv_sub hl [1, 2, 3, 0] rfl)
      · refine lv_tableIn (off := 234) (tgt := 267) hx hb dL_law_33 (by decide) (by decide) (by decide) (by decide) ?_
        refine lv_aload_n hx hb dL_law_267 rfl (lv_at hl 1 rfl) ?_
        refine lv_aload_n hx hb dL_law_268 rfl (lv_at hl 0 rfl) ?_
        refine lv_iload_n hx hb dL_law_269 rfl (lv_at hl 3 rfl) ?_
        refine lv_iconst (v := nI 1) hx hb dL_law_270 (by decide) ?_
        refine vn_iadd hx hb dL_law_271 ?_
        refine vn_sld hx hb hX hbl hbA hS (by omega) hL31 dL_law_272 ?_
        refine lv_aload_n hx hb dL_law_273 rfl (lv_at hl 0 rfl) ?_
        refine lv_iload_n hx hb dL_law_274 rfl (lv_at hl 3 rfl) ?_
        refine lv_iconst (v := nI 2) hx hb dL_law_275 (by decide) ?_
        refine vn_iadd hx hb dL_law_276 ?_
        refine vn_sld hx hb hX hbl hbA hS (by omega) hL31 dL_law_277 ?_
        refine lv_aload_n hx hb dL_law_278 rfl (lv_at hl 0 rfl) ?_
        refine lv_iload_n hx hb dL_law_279 rfl (lv_at hl 3 rfl) ?_
        refine lv_iconst (v := nI 3) hx hb dL_law_280 (by decide) ?_
        refine vn_iadd hx hb dL_law_281 ?_
        refine vn_sld hx hb hX hbl hbA hS (by omega) hL31 dL_law_282 ?_
        refine vp_callSi (va_Run.run (va_runV (As := [.int (xs (6 * k + 1)), .int (xs (6 * k + 2)), .int (xs (6 * k + 3))]) (rest := []) ⟨hx, hb, hml, hown, hts⟩ (metX0_hinted l o1 (xs (6 * k + 1)) (xs (6 * k + 2)) (xs (6 * k + 3))) (cwV 3 hts (lw_V q76 q77 q78 q2 q79) rfl rfl rfl (by decide +kernel) ⟨Nat.le_of_ble_eq_true rfl, Nat.le_of_ble_eq_true rfl⟩) ⟨fun _ _ _ _ q => q, va_recv hK.1 hP (ci := 0) (q0 := 0) rfl rfl, fun U hU hW => ⟨rfl, trivial⟩⟩ rfl rfl hl.1 rfl (lv_room (Nat.le_of_ble_eq_true rfl)) dL_law_283 ⟨by show 12 + 4 * k + 0 ≤ 600096; omega, by show 2058 + 1024 * k + 0 ≤ 7301386; omega⟩)) (fun z0 hz0 => ?_)
        refine lv_aload_n hx hb dL_law_286 rfl (lv_at hl 2 rfl) ?_
        refine lv_aload_n hx hb dL_law_287 rfl (lv_at hl 0 rfl) ?_
        refine lv_iload_n hx hb dL_law_288 rfl (lv_at hl 3 rfl) ?_
        refine lv_iconst (v := nI 1) hx hb dL_law_289 (by decide) ?_
        refine vn_iadd hx hb dL_law_290 ?_
        refine vn_sld hx hb hX hbl hbA hS (by omega) hL31 dL_law_291 ?_
        refine lv_aload_n hx hb dL_law_292 rfl (lv_at hl 0 rfl) ?_
        refine lv_iload_n hx hb dL_law_293 rfl (lv_at hl 3 rfl) ?_
        refine lv_iconst (v := nI 2) hx hb dL_law_294 (by decide) ?_
        refine vn_iadd hx hb dL_law_295 ?_
        refine vn_sld hx hb hX hbl hbA hS (by omega) hL31 dL_law_296 ?_
        refine lv_aload_n hx hb dL_law_297 rfl (lv_at hl 0 rfl) ?_
        refine lv_iload_n hx hb dL_law_298 rfl (lv_at hl 3 rfl) ?_
        refine lv_iconst (v := nI 3) hx hb dL_law_299 (by decide) ?_
        refine vn_iadd hx hb dL_law_300 ?_
        refine vn_sld hx hb hX hbl hbA hS (by omega) hL31 dL_law_301 ?_
        refine vp_callSi (va_Run.run (va_runV (As := [.int (xs (6 * k + 1)), .int (xs (6 * k + 2)), .int (xs (6 * k + 3))]) (rest := [.int z0]) ⟨hx, hb, hml, hown, hts⟩ (metX1_hinted l o2 (xs (6 * k + 1)) (xs (6 * k + 2)) (xs (6 * k + 3))) (cwV 3 hts (lw_V q199 q200 q201 q3 q202) rfl rfl rfl (by decide +kernel) ⟨Nat.le_of_ble_eq_true rfl, Nat.le_of_ble_eq_true rfl⟩) ⟨fun _ _ _ _ q => q, va_recv hK.1 hP (ci := 1) (q0 := 6) rfl rfl, fun U hU hW => ⟨rfl, trivial⟩⟩ rfl rfl hl.1 rfl (lv_room (Nat.le_of_ble_eq_true rfl)) dL_law_302 ⟨by show 12 + 4 * k + 0 ≤ 600096; omega, by show 2058 + 1024 * k + 0 ≤ 7301386; omega⟩)) (fun z1 hz1 => ?_)
        have ez : z0 = z1 := Int32.toInt_inj.mp (hz0.trans hz1.symm)
        refine lv_icmp_eq (tgt := 366) hx hb dL_law_305 (by decide) (fun _ => ?_) (fun c_9 => absurd ez c_9)
        refine lv_iinc (v := nI (6 * (k + 1))) (lv' := [(3, .int (nI (6 * (k + 1)))), (0, .ref b), (1, .ref o1), (2, .ref o2)]) hx hb dL_law_366 hl (k := 3) rfl (by rw [show 6 * (k + 1) = 6 * k + 6 by omega]; exact nI_add (6 * k) 6) (by decide) rfl (fun ls hl => ?_)
        refine lv_goto (tgt := 18) hx hb dL_law_369 (by decide) ?_
        refine W.widen (k := 12 + 4 * (k + 1)) (n := 2058 + 1024 * (k + 1)) (by omega) (by omega) ?_
        exact ih (k + 1) o1 g1 o2 g2 ad1 ad2 M1 M2 H locs ls (by omega) hM hP hD hS (lv_sub hl [1, 2, 3, 0] rfl)
      · refine lv_tableIn (off := 277) (tgt := 310) hx hb dL_law_33 (by decide) (by decide) (by decide) (by decide) ?_
        refine lv_aload_n hx hb dL_law_310 rfl (lv_at hl 1 rfl) ?_
        refine lv_aload_n hx hb dL_law_311 rfl (lv_at hl 0 rfl) ?_
        refine lv_iload_n hx hb dL_law_312 rfl (lv_at hl 3 rfl) ?_
        refine lv_iconst (v := nI 1) hx hb dL_law_313 (by decide) ?_
        refine vn_iadd hx hb dL_law_314 ?_
        refine vn_sld hx hb hX hbl hbA hS (by omega) hL31 dL_law_315 ?_
        refine lv_aload_n hx hb dL_law_316 rfl (lv_at hl 0 rfl) ?_
        refine lv_iload_n hx hb dL_law_317 rfl (lv_at hl 3 rfl) ?_
        refine lv_iconst (v := nI 2) hx hb dL_law_318 (by decide) ?_
        refine vn_iadd hx hb dL_law_319 ?_
        refine vn_sld hx hb hX hbl hbA hS (by omega) hL31 dL_law_320 ?_
        refine vp_callSi (va_Run.run (va_runV (As := [.int (xs (6 * k + 1)), .int (xs (6 * k + 2))]) (rest := []) ⟨hx, hb, hml, hown, hts⟩ (metX0_montgomery l o1 (xs (6 * k + 1)) (xs (6 * k + 2))) (cwV 2 hts (lw_V q156 q157 q158 q2 q159) rfl rfl rfl (by decide +kernel) ⟨Nat.le_of_ble_eq_true rfl, Nat.le_of_ble_eq_true rfl⟩) ⟨fun _ _ _ _ q => q, va_recv hK.1 hP (ci := 0) (q0 := 0) rfl rfl, fun U hU hW => ⟨rfl, trivial⟩⟩ rfl rfl hl.1 rfl (lv_room (Nat.le_of_ble_eq_true rfl)) dL_law_321 ⟨by show 12 + 4 * k + 0 ≤ 600096; omega, by show 2058 + 1024 * k + 0 ≤ 7301386; omega⟩)) (fun z0 hz0 => ?_)
        refine lv_aload_n hx hb dL_law_324 rfl (lv_at hl 2 rfl) ?_
        refine lv_aload_n hx hb dL_law_325 rfl (lv_at hl 0 rfl) ?_
        refine lv_iload_n hx hb dL_law_326 rfl (lv_at hl 3 rfl) ?_
        refine lv_iconst (v := nI 1) hx hb dL_law_327 (by decide) ?_
        refine vn_iadd hx hb dL_law_328 ?_
        refine vn_sld hx hb hX hbl hbA hS (by omega) hL31 dL_law_329 ?_
        refine lv_aload_n hx hb dL_law_330 rfl (lv_at hl 0 rfl) ?_
        refine lv_iload_n hx hb dL_law_331 rfl (lv_at hl 3 rfl) ?_
        refine lv_iconst (v := nI 2) hx hb dL_law_332 (by decide) ?_
        refine vn_iadd hx hb dL_law_333 ?_
        refine vn_sld hx hb hX hbl hbA hS (by omega) hL31 dL_law_334 ?_
        refine vp_callSi (va_Run.run (va_runV (As := [.int (xs (6 * k + 1)), .int (xs (6 * k + 2))]) (rest := [.int z0]) ⟨hx, hb, hml, hown, hts⟩ (metX1_montgomery l o2 (xs (6 * k + 1)) (xs (6 * k + 2))) (cwV 2 hts (lw_V q206 q207 q208 q3 q209) rfl rfl rfl (by decide +kernel) ⟨Nat.le_of_ble_eq_true rfl, Nat.le_of_ble_eq_true rfl⟩) ⟨fun _ _ _ _ q => q, va_recv hK.1 hP (ci := 1) (q0 := 6) rfl rfl, fun U hU hW => ⟨rfl, trivial⟩⟩ rfl rfl hl.1 rfl (lv_room (Nat.le_of_ble_eq_true rfl)) dL_law_335 ⟨by show 12 + 4 * k + 0 ≤ 600096; omega, by show 2058 + 1024 * k + 0 ≤ 7301386; omega⟩)) (fun z1 hz1 => ?_)
        have ez : z0 = z1 := hz0.trans ((hm_spec _ _).trans hz1.symm)
        refine lv_icmp_eq (tgt := 366) hx hb dL_law_338 (by decide) (fun _ => ?_) (fun c_9 => absurd ez c_9)
        refine lv_iinc (v := nI (6 * (k + 1))) (lv' := [(3, .int (nI (6 * (k + 1)))), (0, .ref b), (1, .ref o1), (2, .ref o2)]) hx hb dL_law_366 hl (k := 3) rfl (by rw [show 6 * (k + 1) = 6 * k + 6 by omega]; exact nI_add (6 * k) 6) (by decide) rfl (fun ls hl => ?_)
        refine lv_goto (tgt := 18) hx hb dL_law_369 (by decide) ?_
        refine W.widen (k := 12 + 4 * (k + 1)) (n := 2058 + 1024 * (k + 1)) (by omega) (by omega) ?_
        exact ih (k + 1) o1 g1 o2 g2 ad1 ad2 M1 M2 H locs ls (by omega) hM hP hD hS (lv_sub hl [1, 2, 3, 0] rfl)
      · refine lv_tableIn (off := 310) (tgt := 343) hx hb dL_law_33 (by decide) (by decide) (by decide) (by decide) ?_
        refine lv_aload_n hx hb dL_law_343 rfl (lv_at hl 1 rfl) ?_
        refine lv_aload_n hx hb dL_law_344 rfl (lv_at hl 0 rfl) ?_
        refine lv_iload_n hx hb dL_law_345 rfl (lv_at hl 3 rfl) ?_
        refine lv_iconst (v := nI 1) hx hb dL_law_346 (by decide) ?_
        refine vn_iadd hx hb dL_law_347 ?_
        refine vn_sld hx hb hX hbl hbA hS (by omega) hL31 dL_law_348 ?_
        refine vp_callSi (va_Run.run (va_runV (As := [.int (xs (6 * k + 1))]) (rest := []) ⟨hx, hb, hml, hown, hts⟩ (metX0_brought l o1 (xs (6 * k + 1))) (cwV 1 hts (lw_V q160 q161 q162 q2 q163) rfl rfl rfl (by decide +kernel) ⟨Nat.le_of_ble_eq_true rfl, Nat.le_of_ble_eq_true rfl⟩) ⟨fun _ _ _ _ q => q, va_recv hK.1 hP (ci := 0) (q0 := 0) rfl rfl, fun U hU hW => ⟨rfl, trivial⟩⟩ rfl rfl hl.1 rfl (lv_room (Nat.le_of_ble_eq_true rfl)) dL_law_349 ⟨by show 12 + 4 * k + 0 ≤ 600096; omega, by show 2058 + 1024 * k + 0 ≤ 7301386; omega⟩)) (fun z0 hz0 => ?_)
        refine lv_aload_n hx hb dL_law_352 rfl (lv_at hl 2 rfl) ?_
        refine lv_aload_n hx hb dL_law_353 rfl (lv_at hl 0 rfl) ?_
        refine lv_iload_n hx hb dL_law_354 rfl (lv_at hl 3 rfl) ?_
        refine lv_iconst (v := nI 1) hx hb dL_law_355 (by decide) ?_
        refine vn_iadd hx hb dL_law_356 ?_
        refine vn_sld hx hb hX hbl hbA hS (by omega) hL31 dL_law_357 ?_
        refine vp_callSi (va_Run.run (va_runV (As := [.int (xs (6 * k + 1))]) (rest := [.int z0]) ⟨hx, hb, hml, hown, hts⟩ (metX1_brought l o2 (xs (6 * k + 1))) (cwV 1 hts (lw_V q211 q212 q213 q3 q214) rfl rfl rfl (by decide +kernel) ⟨Nat.le_of_ble_eq_true rfl, Nat.le_of_ble_eq_true rfl⟩) ⟨fun _ _ _ _ q => q, va_recv hK.1 hP (ci := 1) (q0 := 6) rfl rfl, fun U hU hW => ⟨rfl, trivial⟩⟩ rfl rfl hl.1 rfl (lv_room (Nat.le_of_ble_eq_true rfl)) dL_law_358 ⟨by show 12 + 4 * k + 0 ≤ 600096; omega, by show 2058 + 1024 * k + 0 ≤ 7301386; omega⟩)) (fun z1 hz1 => ?_)
        have ez : z0 = z1 := hz0.trans ((hb_spec _).trans hz1.symm)
        refine lv_icmp_eq (tgt := 366) hx hb dL_law_361 (by decide) (fun _ => ?_) (fun c_9 => absurd ez c_9)
        refine lv_iinc (v := nI (6 * (k + 1))) (lv' := [(3, .int (nI (6 * (k + 1)))), (0, .ref b), (1, .ref o1), (2, .ref o2)]) hx hb dL_law_366 hl (k := 3) rfl (by rw [show 6 * (k + 1) = 6 * k + 6 by omega]; exact nI_add (6 * k) 6) (by decide) rfl (fun ls hl => ?_)
        refine lv_goto (tgt := 18) hx hb dL_law_369 (by decide) ?_
        refine W.widen (k := 12 + 4 * (k + 1)) (n := 2058 + 1024 * (k + 1)) (by omega) (by omega) ?_
        exact ih (k + 1) o1 g1 o2 g2 ad1 ad2 M1 M2 H locs ls (by omega) hM hP hD hS (lv_sub hl [1, 2, 3, 0] rfl)
end LAW
set_option maxHeartbeats 4000000 in
set_option maxRecDepth 100000 in
/-- YOUR PART: from the entry, for every script of at most 288 ints, the law comes to its end with true ('hflags': the launch's flags, for a law that throws: no stack traces) -/
theorem whole_start {p : Program} {e : Env} {s : State} {m : MethodId} {below : List Frame} {meth : Method} {c : Code} (l : Launch) (hflags : l.flags = flags0) {b L : Nat} {xs : Nat → Int32} (hL : L ≤ 288) (C0 : lw_At p s m meth c b L xs) : W p l e room_1 s m #[Value.ref b] below meth c s.heap [] 0 0 (lw_Z below #[Value.ref b] s) (entryFrame m ([Value.ref b] : List Value).toArray 4) := by
  obtain ⟨hx, hb, hr, hml, hown, hts0, hX, hbl, hlocks, hgv⟩ := id C0
  have hts : ∀ w ∈ lw_all, w.before #[Value.ref b] s = true := fun w h => hts0 w (lw_all_tbl h)
  have hA : ∀ q : Nat, s.heap.size ≤ q → (fun q : Nat => s.heap.size ≤ q) q := fun _ h => h
  obtain ⟨c0, iS0, hKn0⟩ := u_known (C := RX0) (T := TX0) (N := 1) (n := 1) hts0 (fun w h => lw_all_tbl (in_X0 w h)) (hts _ q11)
  obtain ⟨c1, iS1, hKn1⟩ := u_known (C := RX1) (T := TX1) (N := 1) (n := 1) hts0 (fun w h => lw_all_tbl (in_X1 w h)) (hts _ q166)
  obtain ⟨dC, dI, hKc⟩ : ∃ (dC : Nat → ClassId) (dI : Nat → Nat → Nat), ∀ (k : Nat) (q : vw_C), vwCl[k]? = some q → u_Kn s q.1 q.2.1 q.2.2 (dC k) (dI k) := by
    refine ⟨fun k => if k = 0 then c0 else c1, fun k => if k = 0 then iS0 else iS1, ?_⟩
    intro k q hq
    match k, hq with
    | 0, hq => cases hq; exact hKn0
    | 1, hq => cases hq; exact hKn1
    | k + 2, hq => simp [vwCl] at hq
  obtain ⟨cG, cI, hK⟩ := gK_start hKc (hts0 _ q19) (hts _ q24)
  have hAO : gAO s := gAO.of (hts0 _ q19)
  obtain ⟨t, hZ⟩ := gZ_start hgv (hts0 _ q46) (hts _ q4)
  have hS : va_S (fun q : Nat => s.heap.size ≤ q) s.heap s.heap [] := va_S.rf
  have hP : va_P (dC, dI) vwCl [] s.heap := fun k q h => by simp at h
  have hD : va_D (fun q : Nat => s.heap.size ≤ q) [] := ⟨fun i j p q h => by simp at h, fun k q h => by simp at h⟩
  have hl := lv_entry ([.ref b]) (n := 4) (Nat.le_of_ble_eq_true rfl)
  rw [lg_entry_eq]
  generalize (lg_sl ([.ref b]) ++ List.replicate (4 - (lg_sl ([.ref b])).length) Slot.unset).toArray = ls at hl ⊢
  have hl : lv_has ls 4 [(0, .ref b)] := hl
  refine va_new (ci := 0) (fs := [.null]) (C := RX0) (T := TX0) (N := 1) hx hb hts in_X0 tyX0 tyX0_ok hown (hts _ q10) (hts _ q11) (hts _ q2) hK.1 hP hD hS hA rfl (fun j hj => by rcases (show j = 0 by omega) with rfl; rfl) (Nat.le_of_ble_eq_true rfl) (Nat.le_of_ble_eq_true rfl) dL_law_0 (fun o1 H hP hD hS => ?_)
  refine lv_dup hx hb dL_law_3 rfl ?_
  have hPc := hP.sub (ws' := [(o1, .inr (0, [.null]))]) [0] rfl
  have hDc := hD.sub (ws' := [(o1, .inr (0, [.null]))]) [0] (by decide) rfl
  have hFc := va_free (wc := [(o1, .inr (0, [.null]))]) hD hS hA [0] rfl
  refine va_callv (va_runI (As := []) (rest := [.ref o1]) ⟨hx, hb, hml, hown, hts⟩ (metX0_init l dC dI o1 cG cI H.size) (cwI 0 hts (lw_meth q14) rfl rfl rfl (hts _ q2) (hts _ q12) (hts _ q13) rfl (by decide +kernel) ⟨Nat.le_of_ble_eq_true rfl, Nat.le_of_ble_eq_true rfl⟩) ⟨fun a U g mk q => by obtain ⟨q0, q1, qP, qK, qD, qO⟩ := q; exact ⟨q0, q1, qP, gK.moved (u := U) (U := U.calling g mk a) (Vm.Alike.refl U.vm) qK, qD, gAO.moved (u := U) (U := U.calling g mk a) (Vm.Alike.refl U.vm) qO⟩, fun U hU hW => ⟨rfl, by rw [hU], by rw [hU]; exact hPc, gK.moved hW.alike hK, hDc.weaken (fun _ _ _ _ => trivial), hAO.moved hW.alike⟩⟩ rfl rfl hl.1 rfl (lv_room (Nat.le_of_ble_eq_true rfl)) dL_law_4 ⟨Nat.le_of_ble_eq_true rfl, Nat.le_of_ble_eq_true rfl⟩) hS (fun q _ h => hFc q h) hFc (fun u0 T H1 locs hT hvm hw hB hz1 hk1 hS => ?_)
  obtain ⟨hP1, hD1⟩ := hB
  rw [hT] at hP1
  obtain ⟨hP, hD⟩ := va_join (wr := []) (w1 := gW 0 o1 u0.1 cG cI u0.2 (fun _ _ => 0) []) hP hD [0] [] rfl rfl (by decide) (by decide) hk1 hFc hP1 hD1
  generalize H1 = H at hP hS ⊢
  have hP : va_P (dC, dI) vwCl (gW 0 o1 u0.1 cG cI u0.2 (fun _ _ => 0) []) H := hP
  have hD : va_D (fun q : Nat => s.heap.size ≤ q) (gW 0 o1 u0.1 cG cI u0.2 (fun _ _ => 0) []) := hD
  refine lv_astore_n (lv' := [(1, .ref o1), (0, .ref b)]) hx hb dL_law_7 rfl hl (by decide) rfl (fun ls hl => ?_)
  refine va_new (ci := 1) (fs := [.null]) (C := RX1) (T := TX1) (N := 1) hx hb hts in_X1 tyX1 tyX1_ok hown (hts _ q165) (hts _ q166) (hts _ q3) hK.1 hP hD hS hA rfl (fun j hj => by rcases (show j = 0 by omega) with rfl; rfl) (Nat.le_of_ble_eq_true rfl) (Nat.le_of_ble_eq_true rfl) dL_law_8 (fun o2 H hP hD hS => ?_)
  refine lv_dup hx hb dL_law_11 rfl ?_
  have hPc := hP.sub (ws' := [(o2, .inr (1, [.null]))]) [6] rfl
  have hDc := hD.sub (ws' := [(o2, .inr (1, [.null]))]) [6] (by decide) rfl
  have hFc := va_free (wc := [(o2, .inr (1, [.null]))]) hD hS hA [6] rfl
  refine va_callv (va_runI (As := []) (rest := [.ref o2]) ⟨hx, hb, hml, hown, hts⟩ (metX1_init l dC dI o2 cG cI H.size) (cwI 0 hts (lw_meth q169) rfl rfl rfl (hts _ q3) (hts _ q167) (hts _ q168) rfl (by decide +kernel) ⟨Nat.le_of_ble_eq_true rfl, Nat.le_of_ble_eq_true rfl⟩) ⟨fun a U g mk q => by obtain ⟨q0, q1, qP, qK, qD, qO⟩ := q; exact ⟨q0, q1, qP, gK.moved (u := U) (U := U.calling g mk a) (Vm.Alike.refl U.vm) qK, qD, gAO.moved (u := U) (U := U.calling g mk a) (Vm.Alike.refl U.vm) qO⟩, fun U hU hW => ⟨rfl, by rw [hU], by rw [hU]; exact hPc, gK.moved hW.alike hK, hDc.weaken (fun _ _ _ _ => trivial), hAO.moved hW.alike⟩⟩ rfl rfl hl.1 rfl (lv_room (Nat.le_of_ble_eq_true rfl)) dL_law_12 ⟨Nat.le_of_ble_eq_true rfl, Nat.le_of_ble_eq_true rfl⟩) hS (fun q _ h => hFc q h) hFc (fun u1 T H1 locs hT hvm hw hB hz1 hk1 hS => ?_)
  obtain ⟨hP1, hD1⟩ := hB
  rw [hT] at hP1
  obtain ⟨hP, hD⟩ := va_join (wr := gW 0 o1 u0.1 cG cI u0.2 (fun _ _ => 0) []) (w1 := gW 1 o2 u1.1 cG cI u1.2 (fun _ _ => 0) []) hP hD [6] [0, 1, 2, 3, 4, 5] rfl rfl (by decide) (by decide) hk1 hFc hP1 hD1
  generalize H1 = H at hP hS ⊢
  refine lv_astore_n (lv' := [(2, .ref o2), (1, .ref o1), (0, .ref b)]) hx hb dL_law_15 rfl hl (by decide) rfl (fun ls hl => ?_)
  refine lv_iconst (v := nI 0) hx hb dL_law_16 (by decide) ?_
  refine lv_istore_n (lv' := [(3, .int (nI 0)), (2, .ref o2), (1, .ref o1), (0, .ref b)]) hx hb dL_law_17 rfl hl (by decide) rfl (fun ls hl => ?_)
  exact law_loop l hL C0 hK hZ 49 0 o1 u0.1 o2 u1.1 u0.2 u1.2 (fun _ _ => 0) (fun _ _ => 0) H locs ls rfl mrel_0 hP hD hS (lv_sub hl [3, 2, 1, 0] rfl)

set_option maxHeartbeats 4000000 in
theorem lw_walk (l : Launch) (hflags : l.flags = flags0) (b : Addr) (xs : List Int32) : MetFree l x (headSpec (Jvm.Cond.code x code maxLocals ret :: tables_1) room_1) (lw_P b xs) (fun _ _ _ _ _ => True) lw_Q := by
  refine MetFree.of_bodyS (code := code) (maxLocals := maxLocals) (ret := ret) (by decide) ?_ ?_
  · intro args s m h hn
    obtain ⟨meth, c, h1, h2, h3, h4, h5, h6, -, -⟩ := Cond.code_spec hn (atoms_spec (ws := Jvm.Cond.code x code maxLocals ret :: tables_1) h _ List.mem_cons_self)
    exact ⟨meth, c, h1, h2, h3, h4, h5, h6⟩
  · intro p e s m args below meth c s₁ B hml0 hP _
    obtain ⟨rfl, hx, hbd, hgv⟩ := hP
    obtain ⟨scr, harrAt, hlist, hof, hsmall⟩ := hx
    obtain ⟨hcb, hkn, -, -⟩ := State.arrayAt?_spec harrAt
    have hown : s.vm.findClass R_law = some m.cls := findClass_of_methodNamed B.named
    have hts0 : ∀ c ∈ (Jvm.Cond.code x code maxLocals ret :: tables_1), c.before #[Value.ref b] s = true := atoms_spec (ws := Jvm.Cond.code x code maxLocals ret :: tables_1) B.pre
    have hts : ∀ w ∈ lw_tbl, w.before #[Value.ref b] s = true := k2_hts_sels lw_privs (fun w hw => hts0 w (List.mem_cons_of_mem _ hw)) lw_privs_ok
    have hml : c.maxLocals = 4 := B.maxLocals_eq (hts0 _ List.mem_cons_self)
    have X₀ : Stand p l e room_1 s m #[Value.ref b] below meth c s₁ [] 0 0 := Stand.of_body B
    have hh0 : s₁.heap = s.heap := by rw [B.state]; rfl
    have hsz : scr.slots.size = xs.length := by rw [← Array.length_toList, hlist, List.length_map]
    have hval : ∀ j : Nat, j < xs.length → scr.slots[j]? = some (.int (xs.getD j 0)) := fun j hj => by
      rw [← Array.getElem?_toList, hlist]
      simp [hj]
    have hbl : b < s.heap.size := (Array.getElem?_eq_some_iff.mp hcb).1
    have hX : va_X b xs.length (fun j => xs.getD j 0) s s.heap := ⟨scr, hcb, hof, hkn, hsz, hval⟩
    have K : W p l e room_1 s m #[Value.ref b] below meth c s₁.heap [] 0 0 (lw_Z below #[Value.ref b] s) (entryFrame m ([Value.ref b] : List Value).toArray 4) := by
      rw [hh0]
      exact whole_start l hflags hbd ⟨B.exec, B.bytes, B.returns, hml, hown, hts, hX, hbl, B.notSynchronized, hgv⟩
    obtain ⟨t, a1, o, b1, b2, b3⟩ := K s₁ rfl X₀
    exact ⟨t, o, a1, b1, b2, b3⟩
theorem lw_pre_spec {args : Array Value} {s : State} (h : (Jvm.Cond.and given_1 narrow_1).before args s = true) (hr : rest_1_c.before args s = true) : ∃ (b : Addr) (xs : List Int32), lw_P b xs args s := by
  have hs := flat_of_before _ h
  have hq := flat_of_before _ hr
  have hc : (Cond.count 1).before args s = true := hs _ (by decide +kernel)
  have harr : (Cond.arrayOf (.arg 0) .int).before args s = true := hs _ (by decide +kernel)
  have hle : (Cond.le (.length (.arg 0)) (.int 288)).before args s = true := hs _ (by decide +kernel)
  have hlen : (Cond.isInt (.length (.arg 0))).before args s = true := hq _ (by decide +kernel)
  have hall : (Cond.all (.arg 0) (.isInt (.elem (.arg 0) (.index 0)))).before args s = true := hq _ (by decide +kernel)
  obtain ⟨b, xs, hb, hx⟩ := State.ints_of_pre rfl harr hlen hall
  have hsm : xs.length < 2 ^ 31 := hx.choose_spec.2.2.2
  have hev : (Term.length (.arg 0)).eval args s none [] s = some (.int xs.length.toInt32) := hx.length_eval hb
  have hv := Cond.le_ints hev (show (Term.int 288).eval args s none [] s = some (.int 288) from rfl)
  have hd : xs.length.toInt32 ≤ 288 := by
    simpa [Cond.before, Cond.holds, hv] using hle
  have hN : xs.length ≤ 288 := (Int32.ofNat_le_ofNat hsm (by decide)).mp (show Int32.ofNat xs.length ≤ Int32.ofNat 288 from hd)
  exact ⟨b, xs, Cond.one_arg hc (show args[0]? = some (.ref b) from hb), hx, hN, h⟩
theorem lw_comes (l : Launch) (hflags : l.flags = flags0) : Comes l x (Jvm.Cond.code x code maxLocals ret :: tables_1) room_1 (fun tb e args s => Calls_1 tb e args s ∧ rest_1 tb e args s ∧ Pre_1 tb e args s)
    (fun _ _ args s o t => lw_Q args s o t) := by
  intro p e ha hc hk s m args below hf hfit hheap happ hpre
  obtain ⟨b, xs, hP⟩ := lw_pre_spec hpre.2.2 hpre.2.1
  obtain ⟨k, o, h1, h2, h3, hQ⟩ := lw_walk l hflags b xs p e ha hc hk s m args below hf ((Spec.applies_iff_loose hf).mp happ).1 hP trivial
  exact ⟨k, o, h1, h2, h3, hQ⟩
theorem lw_frame {s t : State} {o : Outcome} {args : Array Value} (h : Framed s o t [] 600096 7301386) :
    Framed s o t (fieldLocs frame_1_writes args s ++ arrayLocs frame_1_arrays args s ++ staticLocs frame_1_statics s) 600096 7301386 := h
theorem lw_limb (L : Cond) (hL : ∀ (args : Array Value) (s t : State), L.after args s (.returned (some (.int 1))) t = true) :
    ArmFor flags0 classFile x code maxLocals ret World_1 tables_1 room_1 Calls_1 rest_1 Pre_1
      (fun tb e a s o t => postC L tb e a s o t ∧ Framed s o t (fieldLocs frame_1_writes a s ++ arrayLocs frame_1_arrays a s ++ staticLocs frame_1_statics s) 600096 7301386) := by
  intro l hflags _ _ p e ha hc hk s m args below hf hfit hheap happ hpre
  obtain ⟨k, o, h1, h2, h3, rfl, hF⟩ := lw_comes l hflags p e ha hc hk s m args below hf hfit hheap happ hpre
  exact ⟨k, _, h1, h2, h3, hL args s _, lw_frame hF⟩
theorem i_vc : Claimed_1_1 ∧ Claimed_1_2 := ⟨lw_limb limb_1_1 (fun args s t => by simp [limb_1_1, Cond.after, Cond.holds, Cond.value]), lw_limb limb_1_2 (fun args s t => Cond.after_iff.mpr (by
  first | (rw [show limb_1_2 = Cond.eq .result (.int 1) from rfl, Cond.eq_ints (x := 1) (y := 1) rfl rfl]; simp; done) | (simp [limb_1_2, Cond.value, Term.eval]; done)))⟩
end
